import JvmDerived
import JvmDerived.Pilot.@@N@@Statement
import JvmDerived.Pilot.@@N@@Code
set_option linter.unusedVariables false
set_option linter.unusedSimpArgs false
namespace Jvm.Pilot.@@N@@
open Jvm Jvm.ClassFile Sem Op Lib Jvm.Free Jvm.Stand Jvm.LawKit Jvm.RoadKit Bundle Jvm.Pilot.@@N@@.Jvm.D
/-- from A the run comes to an end of the body that says P -/
def Goes (p : Program) (e : Env) (below : List Frame) (s : State) (P : Option Value → Heap → List Loc → Prop) (k n : Nat) (A : State) : Prop :=
  ∃ s₂ o, Steps p.tables e below A s₂ ∧ s₂.status = .running ∧ Ended s₂ below o ∧ ∃ v L, o = .returned v ∧ P v s₂.heap L ∧ FrameEnd s o s₂ L k n
section OwnGoes
variable {p : Program} {l : Launch} {e : Env} {R : Room} {s : State} {m : MethodId} {args : Array Value} {below : List Frame} {meth : Method} {c : Code} {T : State} {locs : List Loc} {cells slots : Nat} {P : Option Value → Heap → List Loc → Prop} {k n : Nat} {A B : State}
theorem Goes.pre (h : ∀ t, Steps p.tables e below B t → Steps p.tables e below A t) (g : Goes p e below s P k n B) : Goes p e below s P k n A := by
  obtain ⟨t, o, h1, r⟩ := g
  exact ⟨t, o, h _ h1, r⟩
theorem Goes.run (h : Steps p.tables e below A B) (g : Goes p e below s P k n B) : Goes p e below s P k n A := g.pre fun _ q => h.trans q
theorem Goes.ret (X : Stand p l e R s m args below meth c T locs cells slots) (v : Option Value) (hv : meth.sig.returnType = none → v = none) (hlocks : meth.locks = false) (hk : cells ≤ k) (hn : slots ≤ n) {f : JFrame}
    (st : ∀ fs : List Frame, (∀ (f : JFrame) (acts : List Action), f.method = m → f.locked = none → f.entered = [] → (doReturn e (T.setTop f) acts v).1 = T.setFrames fs) → Steps p.tables e below (T.setTop f) (T.setFrames fs))
    (hP : P v T.heap locs) : Goes p e below s P k n (T.setTop f) := by
  obtain ⟨fs, hr, hrun, hended, hW, hsame⟩ := X.leave (v := v) hv hlocks
  exact ⟨_, _, st fs hr, hrun, hended, _, _, rfl, hP, ⟨_, rfl⟩, hW, hsame.mono hk hn⟩
end OwnGoes

def own_seq (q : Int64) (b a : Int32) : Int32 := if q = (-1 : Int64) then 0 else if b = (-1 : Int32) then 0 else if (a &&& (32 : Int32)) = (0 : Int32) then 1 else 0
def own_ref (q : Int64) (b a : Int32) : Int32 := if q = (-1 : Int64) then 0 else if b = (-1 : Int32) then 0 else if ((a >>> ((5 : Int32) &&& 31)) &&& (1 : Int32)) = (1 : Int32) then 0 else 1
theorem own_split (a : Int32) : a &&& 63 = (a &&& 32) + (a &&& 31) := by
  have h : (a &&& 32) &&& (a &&& 31) = 0 := by
    have : (32 : Int32) &&& 31 = 0 := by decide
    calc (a &&& 32) &&& (a &&& 31) = (a &&& a) &&& (32 &&& 31) := by ac_rfl
      _ = 0 := by rw [this]; simp
  apply Int32.toBitVec_inj.mp
  have h' : (a.toBitVec &&& 32#32) &&& (a.toBitVec &&& 31#32) = 0#32 := congrArg Int32.toBitVec h
  show a.toBitVec &&& 63#32 = (a.toBitVec &&& 32#32) + (a.toBitVec &&& 31#32)
  rw [BitVec.add_eq_or_of_and_eq_zero _ _ h', ← BitVec.and_or_distrib_left]
  rfl
theorem own_bits (a : Int32) : a &&& (32 : Int32) = (0 : Int32) ↔ ¬ ((a >>> ((5 : Int32) &&& 31)) &&& (1 : Int32)) = (1 : Int32) := by
  have h1 := c_ishr a (5 : Int32) 5 (by decide)
  have h2 := c_mask (a >>> ((5 : Int32) &&& 31)) 1 1 (by decide) (by decide)
  have h3 := c_mask a 31 5 (by decide) (by decide)
  have h4 := c_mask a 63 6 (by decide) (by decide)
  have e : a &&& 63 = (a &&& 32) + (a &&& 31) := own_split a
  have h5 := c_iadd (a &&& 32) (a &&& 31)
  have h6 := c_and a 32 (by decide)
  have h7 := c_and a 31 (by decide)
  rw [← e] at h5
  have h8 : (1 : Int32).toInt = 1 := by decide
  have h9 : (0 : Int32).toInt = 0 := by decide
  have h10 : (32 : Int32).toInt = 32 := by decide
  have h11 : (31 : Int32).toInt = 31 := by decide
  rw [← Int32.toInt_inj, ← Int32.toInt_inj, h2, h1, h8, h9]
  omega
theorem own_same (q : Int64) (b a : Int32) : own_seq q b a = own_ref q b a := by
  unfold own_seq own_ref
  by_cases h1 : q = -1
  · simp [h1]
  · by_cases h2 : b = -1
    · simp [h1, h2]
    · by_cases h3 : (a &&& (32 : Int32)) = (0 : Int32)
      · rw [if_neg h1, if_neg h1, if_neg h2, if_neg h2, if_pos h3, if_neg ((own_bits a).mp h3)]
      · rw [if_neg h1, if_neg h1, if_neg h2, if_neg h2, if_neg h3, if_pos (Classical.not_not.mp fun q => h3 ((own_bits a).mpr q))]
theorem own_short (x : Int32) : x.toInt16.toInt32.toInt16.toInt32 = x.toInt16.toInt32 := by simp
theorem d1_0 : decode prog_49_method_1_code 0 = .ok (.aload_n 0, 1) := by decide +kernel
theorem d1_1 : decode prog_49_method_1_code 1 = .ok (.invokespecial 1, 3) := by decide +kernel
theorem d1_4 : decode prog_49_method_1_code 4 = .ok (.return_, 1) := by decide +kernel
theorem pn_0 : plainName "com/example/seqlint/seqlint/kafka/Batch" = true := by first | (simp [plainName, overriddenIn]; done) | decide +kernel
def Q_rm1 (Z : State) (a1 : Addr) (h0 : Heap) (n0 : Nat) (v : Option Value) (h : Heap) (L : List Loc) : Prop := v = none ∧ Fr n0 L ∧ h = h0
theorem ef_rm1 (m : MethodId) (a1 : Addr) : entryFrame m #[(.ref a1)] 1 = mkF m 0 #[.val (.ref a1)] [] := by first | (simp [entryFrame, mkF, argsToLocals, Value.category]; done) | rfl
set_option maxRecDepth 65536 in
set_option maxHeartbeats 40000000 in
theorem rm1 (l : Launch) (Z : State) (a0 : Array Value) (hw : ∀ d ∈ tables_1, d.before a0 Z = true) (ws : List Jvm.Cond) (a1 : Addr) (h0 : Heap) (n0 : Nat) (Z0 : n0 ≤ h0.size) :
    MetFree l (⟨"com/example/seqlint/seqlint/kafka/Batch", "<init>", "()V"⟩ : MethodName) (head1 (Jvm.Cond.code (⟨"com/example/seqlint/seqlint/kafka/Batch", "<init>", "()V"⟩ : MethodName) prog_49_method_1_code 1 none :: ws) ({ frames := 1, cells := 0, slots := 0, locals := 12 } : Room)) (fun a U => a = #[(.ref a1)] ∧ Z.Warmed39 U.vm ∧ U.heap = h0) (fun _ _ _ _ _ => True) (fun _ U o U' => ∃ v L, o = .returned v ∧ Q_rm1 Z a1 h0 n0 v U'.heap L ∧ FrameEnd U o U' L ({ frames := 1, cells := 0, slots := 0, locals := 12 } : Room).cells ({ frames := 1, cells := 0, slots := 0, locals := 12 } : Room).slots) := by
  refine MetFree.of_bodySF (plainFor_of_name pn_0) hisR ?_
  intro p e s m args below meth c s₁ Bd hml0 hP hK
  obtain ⟨rfl, hZ, hh⟩ := hP
  have hx := Bd.exec
  have hby := Bd.bytes
  have hml : c.maxLocals = 1 := hml0
  have hown : s.vm.findClass "com/example/seqlint/seqlint/kafka/Batch" = some m.cls := findClass_of_methodNamed Bd.named
  have hnm := (name_of_methodNamed Bd.named Bd.method).1
  have X0 : Stand p l e ({ frames := 1, cells := 0, slots := 0, locals := 12 } : Room) s m #[(.ref a1)] below meth c s₁ [] 0 0 := Stand.of_body Bd
  have e0 : s₁.heap = h0 := by rw [← hh, Bd.state]; rfl
  have N0 := Fr.nil n0
  show Goes p e below s (Q_rm1 Z a1 h0 n0) ({ frames := 1, cells := 0, slots := 0, locals := 12 } : Room).cells ({ frames := 1, cells := 0, slots := 0, locals := 12 } : Room).slots (s₁.setTop (entryFrame m #[(.ref a1)] 1))
  refine Goes.pre (fun t kt => castTop (ef_rm1 m a1) kt) ?_
  show Goes p e below s _ _ _ (s₁.setTop (mkF m 0 #[.val (.ref a1)] []))
  refine Goes.pre (fun t kt => XS.aloadN X0.here hx rfl (hb hby d1_0) rfl rfl kt) ?_
  show Goes p e below s _ _ _ (s₁.setTop (mkF m 1 #[.val (.ref a1)] [(.ref a1)]))
  obtain ⟨T1, X1, e1, st1⟩ := initO X0 hx hZ hown (hw _ (List.mem_of_getElem? (i := 6) rfl)) (hw _ (List.mem_of_getElem? (i := 7) rfl)) (hw _ (List.mem_of_getElem? (i := 8) rfl)) e0 (g := (mkF m 1 #[.val (.ref a1)] [(.ref a1)])) rfl (by rw [hml]; rfl) rfl (hb hby d1_1) (by decide) (W := 0) (by show 2 * 0 + _ ≤ _; exact Nat.le_of_eq rfl) (by decide)
  refine Goes.pre st1 ?_
  show Goes p e below s _ _ _ (T1.setTop (mkF m 4 #[.val (.ref a1)] []))
  refine Goes.ret X1 none (fun _ => rfl) (BodyLoose.notSynchronized Bd) (by decide) (by decide) (fun fs hr => X1.returnOut hx Bd.returns (hb hby d1_4) hr) ?_
  show Q_rm1 Z a1 h0 n0 _ T1.heap _
  rw [e1]
  exact ⟨rfl, N0, rfl⟩
theorem d3_0 : decode prog_49_method_2_code 0 = .ok (.aload_n 0, 1) := by decide +kernel
theorem d3_1 : decode prog_49_method_2_code 1 = .ok (.lload_n 1, 1) := by decide +kernel
theorem d3_2 : decode prog_49_method_2_code 2 = .ok (.putfield 7, 3) := by decide +kernel
theorem d3_5 : decode prog_49_method_2_code 5 = .ok (.aload_n 0, 1) := by decide +kernel
theorem d3_6 : decode prog_49_method_2_code 6 = .ok (.lload_n 3, 1) := by decide +kernel
theorem d3_7 : decode prog_49_method_2_code 7 = .ok (.putfield 13, 3) := by decide +kernel
theorem d3_10 : decode prog_49_method_2_code 10 = .ok (.aload_n 0, 1) := by decide +kernel
theorem d3_11 : decode prog_49_method_2_code 11 = .ok (.iload 5, 2) := by decide +kernel
theorem d3_13 : decode prog_49_method_2_code 13 = .ok (.putfield 16, 3) := by decide +kernel
theorem d3_16 : decode prog_49_method_2_code 16 = .ok (.aload_n 0, 1) := by decide +kernel
theorem d3_17 : decode prog_49_method_2_code 17 = .ok (.lload 6, 2) := by decide +kernel
theorem d3_19 : decode prog_49_method_2_code 19 = .ok (.putfield 20, 3) := by decide +kernel
theorem d3_22 : decode prog_49_method_2_code 22 = .ok (.aload_n 0, 1) := by decide +kernel
theorem d3_23 : decode prog_49_method_2_code 23 = .ok (.ldc2_w 23, 3) := by decide +kernel
theorem d3_26 : decode prog_49_method_2_code 26 = .ok (.putfield 25, 3) := by decide +kernel
theorem d3_29 : decode prog_49_method_2_code 29 = .ok (.aload_n 0, 1) := by decide +kernel
theorem d3_30 : decode prog_49_method_2_code 30 = .ok (.iload 8, 2) := by decide +kernel
theorem d3_32 : decode prog_49_method_2_code 32 = .ok (.putfield 28, 3) := by decide +kernel
theorem d3_35 : decode prog_49_method_2_code 35 = .ok (.aload_n 0, 1) := by decide +kernel
theorem d3_36 : decode prog_49_method_2_code 36 = .ok (.iload 9, 2) := by decide +kernel
theorem d3_38 : decode prog_49_method_2_code 38 = .ok (.putfield 32, 3) := by decide +kernel
theorem d3_41 : decode prog_49_method_2_code 41 = .ok (.aload_n 0, 1) := by decide +kernel
theorem d3_42 : decode prog_49_method_2_code 42 = .ok (.lload 10, 2) := by decide +kernel
theorem d3_44 : decode prog_49_method_2_code 44 = .ok (.putfield 35, 3) := by decide +kernel
theorem d3_47 : decode prog_49_method_2_code 47 = .ok (.aload_n 0, 1) := by decide +kernel
theorem d3_48 : decode prog_49_method_2_code 48 = .ok (.lload 12, 2) := by decide +kernel
theorem d3_50 : decode prog_49_method_2_code 50 = .ok (.putfield 38, 3) := by decide +kernel
theorem d3_53 : decode prog_49_method_2_code 53 = .ok (.aload_n 0, 1) := by decide +kernel
theorem d3_54 : decode prog_49_method_2_code 54 = .ok (.lload 14, 2) := by decide +kernel
theorem d3_56 : decode prog_49_method_2_code 56 = .ok (.putfield 41, 3) := by decide +kernel
theorem d3_59 : decode prog_49_method_2_code 59 = .ok (.aload_n 0, 1) := by decide +kernel
theorem d3_60 : decode prog_49_method_2_code 60 = .ok (.iload 16, 2) := by decide +kernel
theorem d3_62 : decode prog_49_method_2_code 62 = .ok (.putfield 44, 3) := by decide +kernel
theorem d3_65 : decode prog_49_method_2_code 65 = .ok (.aload_n 0, 1) := by decide +kernel
theorem d3_66 : decode prog_49_method_2_code 66 = .ok (.iload 17, 2) := by decide +kernel
theorem d3_68 : decode prog_49_method_2_code 68 = .ok (.putfield 47, 3) := by decide +kernel
theorem d3_71 : decode prog_49_method_2_code 71 = .ok (.aload_n 0, 1) := by decide +kernel
theorem d3_72 : decode prog_49_method_2_code 72 = .ok (.iload 18, 2) := by decide +kernel
theorem d3_74 : decode prog_49_method_2_code 74 = .ok (.putfield 50, 3) := by decide +kernel
theorem d3_77 : decode prog_49_method_2_code 77 = .ok (.aload_n 0, 1) := by decide +kernel
theorem d3_78 : decode prog_49_method_2_code 78 = .ok (.aconst_null, 1) := by decide +kernel
theorem d3_79 : decode prog_49_method_2_code 79 = .ok (.putfield 53, 3) := by decide +kernel
theorem d3_82 : decode prog_49_method_2_code 82 = .ok (.return_, 1) := by decide +kernel
def Q_rm3 (Z : State) (a1 : Addr) (q2 : Int64) (q3 : Int64) (p4 : Int32) (q5 : Int64) (p6 : Int32) (p7 : Int32) (q8 : Int64) (q9 : Int64) (q10 : Int64) (p11 : Int32) (p12 : Int32) (p13 : Int32) (u_position : Value) (u_baseOffset : Value) (u_leaderEpoch : Value) (u_storedCrc : Value) (u_computedCrc : Value) (u_attributes : Value) (u_lastOffsetDelta : Value) (u_firstTimestamp : Value) (u_maxTimestamp : Value) (u_producerId : Value) (u_producerEpoch : Value) (u_baseSequence : Value) (u_recordCount : Value) (u_marker : Value) (h0 : Heap) (n0 : Nat) (v : Option Value) (h : Heap) (L : List Loc) : Prop := v = none ∧ Fr n0 L ∧ Keep h0 h [a1] ∧ (Fld Z h a1 "com/example/seqlint/seqlint/kafka/Batch" "position" "J" (.long q2)) ∧ (Fld Z h a1 "com/example/seqlint/seqlint/kafka/Batch" "baseOffset" "J" (.long q3)) ∧ (Fld Z h a1 "com/example/seqlint/seqlint/kafka/Batch" "leaderEpoch" "I" (.int p4)) ∧ (Fld Z h a1 "com/example/seqlint/seqlint/kafka/Batch" "storedCrc" "J" (.long q5)) ∧ (Fld Z h a1 "com/example/seqlint/seqlint/kafka/Batch" "computedCrc" "J" (.long (-1 : Int64))) ∧ (Fld Z h a1 "com/example/seqlint/seqlint/kafka/Batch" "attributes" "S" (.int (p6.toInt16.toInt32))) ∧ (Fld Z h a1 "com/example/seqlint/seqlint/kafka/Batch" "lastOffsetDelta" "I" (.int p7)) ∧ (Fld Z h a1 "com/example/seqlint/seqlint/kafka/Batch" "firstTimestamp" "J" (.long q8)) ∧ (Fld Z h a1 "com/example/seqlint/seqlint/kafka/Batch" "maxTimestamp" "J" (.long q9)) ∧ (Fld Z h a1 "com/example/seqlint/seqlint/kafka/Batch" "producerId" "J" (.long q10)) ∧ (Fld Z h a1 "com/example/seqlint/seqlint/kafka/Batch" "producerEpoch" "S" (.int (p11.toInt16.toInt32))) ∧ (Fld Z h a1 "com/example/seqlint/seqlint/kafka/Batch" "baseSequence" "I" (.int p12)) ∧ (Fld Z h a1 "com/example/seqlint/seqlint/kafka/Batch" "recordCount" "I" (.int p13)) ∧ (Fld Z h a1 "com/example/seqlint/seqlint/kafka/Batch" "marker" "Lcom/example/seqlint/seqlint/kafka/Batch$Marker;" .null)
theorem ef_rm3 (m : MethodId) (a1 : Addr) (q2 : Int64) (q3 : Int64) (p4 : Int32) (q5 : Int64) (p6 : Int32) (p7 : Int32) (q8 : Int64) (q9 : Int64) (q10 : Int64) (p11 : Int32) (p12 : Int32) (p13 : Int32) : entryFrame m #[(.ref a1), (.long q2), (.long q3), (.int p4), (.long q5), (.int p6), (.int p7), (.long q8), (.long q9), (.long q10), (.int p11), (.int p12), (.int p13)] 19 = mkF m 0 #[.val (.ref a1), .val (.long q2), .second, .val (.long q3), .second, .val (.int p4), .val (.long q5), .second, .val (.int p6), .val (.int p7), .val (.long q8), .second, .val (.long q9), .second, .val (.long q10), .second, .val (.int p11), .val (.int p12), .val (.int p13)] [] := by first | (simp [entryFrame, mkF, argsToLocals, Value.category]; done) | rfl
set_option maxRecDepth 65536 in
set_option maxHeartbeats 40000000 in
theorem rm3 (l : Launch) (Z : State) (a0 : Array Value) (hw : ∀ d ∈ tables_1, d.before a0 Z = true) (ws : List Jvm.Cond) (a1 : Addr) (q2 : Int64) (q3 : Int64) (p4 : Int32) (q5 : Int64) (p6 : Int32) (p7 : Int32) (q8 : Int64) (q9 : Int64) (q10 : Int64) (p11 : Int32) (p12 : Int32) (p13 : Int32) (u_position : Value) (u_baseOffset : Value) (u_leaderEpoch : Value) (u_storedCrc : Value) (u_computedCrc : Value) (u_attributes : Value) (u_lastOffsetDelta : Value) (u_firstTimestamp : Value) (u_maxTimestamp : Value) (u_producerId : Value) (u_producerEpoch : Value) (u_baseSequence : Value) (u_recordCount : Value) (u_marker : Value) (h0 : Heap) (n0 : Nat) (Z0 : n0 ≤ h0.size) (pf_E_a1 : Exa Z h0 a1 "com/example/seqlint/seqlint/kafka/Batch") (pf_G_a1 : n0 ≤ a1) (pf_F_a1_com_example_seqlint_seqlint_kafka_Batch_position : Fld Z h0 a1 "com/example/seqlint/seqlint/kafka/Batch" "position" "J" u_position) (pf_F_a1_com_example_seqlint_seqlint_kafka_Batch_baseOffset : Fld Z h0 a1 "com/example/seqlint/seqlint/kafka/Batch" "baseOffset" "J" u_baseOffset) (pf_F_a1_com_example_seqlint_seqlint_kafka_Batch_leaderEpoch : Fld Z h0 a1 "com/example/seqlint/seqlint/kafka/Batch" "leaderEpoch" "I" u_leaderEpoch) (pf_F_a1_com_example_seqlint_seqlint_kafka_Batch_storedCrc : Fld Z h0 a1 "com/example/seqlint/seqlint/kafka/Batch" "storedCrc" "J" u_storedCrc) (pf_F_a1_com_example_seqlint_seqlint_kafka_Batch_computedCrc : Fld Z h0 a1 "com/example/seqlint/seqlint/kafka/Batch" "computedCrc" "J" u_computedCrc) (pf_F_a1_com_example_seqlint_seqlint_kafka_Batch_attributes : Fld Z h0 a1 "com/example/seqlint/seqlint/kafka/Batch" "attributes" "S" u_attributes) (pf_F_a1_com_example_seqlint_seqlint_kafka_Batch_lastOffsetDelta : Fld Z h0 a1 "com/example/seqlint/seqlint/kafka/Batch" "lastOffsetDelta" "I" u_lastOffsetDelta) (pf_F_a1_com_example_seqlint_seqlint_kafka_Batch_firstTimestamp : Fld Z h0 a1 "com/example/seqlint/seqlint/kafka/Batch" "firstTimestamp" "J" u_firstTimestamp) (pf_F_a1_com_example_seqlint_seqlint_kafka_Batch_maxTimestamp : Fld Z h0 a1 "com/example/seqlint/seqlint/kafka/Batch" "maxTimestamp" "J" u_maxTimestamp) (pf_F_a1_com_example_seqlint_seqlint_kafka_Batch_producerId : Fld Z h0 a1 "com/example/seqlint/seqlint/kafka/Batch" "producerId" "J" u_producerId) (pf_F_a1_com_example_seqlint_seqlint_kafka_Batch_producerEpoch : Fld Z h0 a1 "com/example/seqlint/seqlint/kafka/Batch" "producerEpoch" "S" u_producerEpoch) (pf_F_a1_com_example_seqlint_seqlint_kafka_Batch_baseSequence : Fld Z h0 a1 "com/example/seqlint/seqlint/kafka/Batch" "baseSequence" "I" u_baseSequence) (pf_F_a1_com_example_seqlint_seqlint_kafka_Batch_recordCount : Fld Z h0 a1 "com/example/seqlint/seqlint/kafka/Batch" "recordCount" "I" u_recordCount) (pf_F_a1_com_example_seqlint_seqlint_kafka_Batch_marker : Fld Z h0 a1 "com/example/seqlint/seqlint/kafka/Batch" "marker" "Lcom/example/seqlint/seqlint/kafka/Batch$Marker;" u_marker) :
    MetFree l (⟨"com/example/seqlint/seqlint/kafka/Batch", "set", "(JJIJSIJJJSII)V"⟩ : MethodName) (head1 (Jvm.Cond.code (⟨"com/example/seqlint/seqlint/kafka/Batch", "set", "(JJIJSIJJJSII)V"⟩ : MethodName) prog_49_method_2_code 19 none :: ws) ({ frames := 0, cells := 0, slots := 0, locals := 0 } : Room)) (fun a U => a = #[(.ref a1), (.long q2), (.long q3), (.int p4), (.long q5), (.int p6), (.int p7), (.long q8), (.long q9), (.long q10), (.int p11), (.int p12), (.int p13)] ∧ Z.Warmed39 U.vm ∧ U.heap = h0) (fun _ _ _ _ _ => True) (fun _ U o U' => ∃ v L, o = .returned v ∧ Q_rm3 Z a1 q2 q3 p4 q5 p6 p7 q8 q9 q10 p11 p12 p13 u_position u_baseOffset u_leaderEpoch u_storedCrc u_computedCrc u_attributes u_lastOffsetDelta u_firstTimestamp u_maxTimestamp u_producerId u_producerEpoch u_baseSequence u_recordCount u_marker h0 n0 v U'.heap L ∧ FrameEnd U o U' L ({ frames := 0, cells := 0, slots := 0, locals := 0 } : Room).cells ({ frames := 0, cells := 0, slots := 0, locals := 0 } : Room).slots) := by
  refine MetFree.of_bodySF (plainFor_of_name pn_0) hisR ?_
  intro p e s m args below meth c s₁ Bd hml0 hP hK
  obtain ⟨rfl, hZ, hh⟩ := hP
  have hx := Bd.exec
  have hby := Bd.bytes
  have hml : c.maxLocals = 19 := hml0
  have hown : s.vm.findClass "com/example/seqlint/seqlint/kafka/Batch" = some m.cls := findClass_of_methodNamed Bd.named
  have hnm := (name_of_methodNamed Bd.named Bd.method).1
  have X0 : Stand p l e ({ frames := 0, cells := 0, slots := 0, locals := 0 } : Room) s m #[(.ref a1), (.long q2), (.long q3), (.int p4), (.long q5), (.int p6), (.int p7), (.long q8), (.long q9), (.long q10), (.int p11), (.int p12), (.int p13)] below meth c s₁ [] 0 0 := Stand.of_body Bd
  have e0 : s₁.heap = h0 := by rw [← hh, Bd.state]; rfl
  have N0 := Fr.nil n0
  have K0 := Keep.refl h0 [a1]
  show Goes p e below s (Q_rm3 Z a1 q2 q3 p4 q5 p6 p7 q8 q9 q10 p11 p12 p13 u_position u_baseOffset u_leaderEpoch u_storedCrc u_computedCrc u_attributes u_lastOffsetDelta u_firstTimestamp u_maxTimestamp u_producerId u_producerEpoch u_baseSequence u_recordCount u_marker h0 n0) ({ frames := 0, cells := 0, slots := 0, locals := 0 } : Room).cells ({ frames := 0, cells := 0, slots := 0, locals := 0 } : Room).slots (s₁.setTop (entryFrame m #[(.ref a1), (.long q2), (.long q3), (.int p4), (.long q5), (.int p6), (.int p7), (.long q8), (.long q9), (.long q10), (.int p11), (.int p12), (.int p13)] 19))
  refine Goes.pre (fun t kt => castTop (ef_rm3 m a1 q2 q3 p4 q5 p6 p7 q8 q9 q10 p11 p12 p13) kt) ?_
  show Goes p e below s _ _ _ (s₁.setTop (mkF m 0 #[.val (.ref a1), .val (.long q2), .second, .val (.long q3), .second, .val (.int p4), .val (.long q5), .second, .val (.int p6), .val (.int p7), .val (.long q8), .second, .val (.long q9), .second, .val (.long q10), .second, .val (.int p11), .val (.int p12), .val (.int p13)] []))
  refine Goes.pre (fun t kt => XS.aloadN X0.here hx rfl (hb hby d3_0) rfl rfl kt) ?_
  show Goes p e below s _ _ _ (s₁.setTop (mkF m 1 #[.val (.ref a1), .val (.long q2), .second, .val (.long q3), .second, .val (.int p4), .val (.long q5), .second, .val (.int p6), .val (.int p7), .val (.long q8), .second, .val (.long q9), .second, .val (.long q10), .second, .val (.int p11), .val (.int p12), .val (.int p13)] [(.ref a1)]))
  refine Goes.pre (fun t kt => XS.lloadN X0.here hx rfl (hb hby d3_1) rfl kt) ?_
  show Goes p e below s _ _ _ (s₁.setTop (mkF m 2 #[.val (.ref a1), .val (.long q2), .second, .val (.long q3), .second, .val (.int p4), .val (.long q5), .second, .val (.int p6), .val (.int p7), .val (.long q8), .second, .val (.long q9), .second, .val (.long q10), .second, .val (.int p11), .val (.int p12), .val (.int p13)] [(.long q2), (.ref a1)]))
  obtain ⟨T1, h1, X1, e1, W1, st1⟩ := putF X0 hx hZ hown (host := "") (Or.inl (hw _ (List.mem_of_getElem? (i := 14) rfl))) Via.refl e0 pf_F_a1_com_example_seqlint_seqlint_kafka_Batch_position pf_E_a1 (Or.inl (hw _ (List.mem_of_getElem? (i := 15) rfl))) (hw _ (List.mem_of_getElem? (i := 1) rfl)) (ty := .long) (by decide) rfl rfl (g := (mkF m 2 #[.val (.ref a1), .val (.long q2), .second, .val (.long q3), .second, .val (.int p4), .val (.long q5), .second, .val (.int p6), .val (.int p7), .val (.long q8), .second, .val (.long q9), .second, .val (.long q10), .second, .val (.int p11), .val (.int p12), .val (.int p13)] [(.long q2), (.ref a1)])) rfl rfl (hb hby d3_2)
  refine Goes.pre st1 ?_
  have Z1 : n0 ≤ h1.size := Nat.le_trans Z0 (Keep.of_wr W1).1
  have N1 := Fr.snoc X1 N0 pf_G_a1
  have K1 := K0.wr W1 (Or.inl (List.mem_of_getElem? (i := 0) rfl))
  have Fw1 : Fld Z h1 a1 "com/example/seqlint/seqlint/kafka/Batch" "position" "J" (.long q2) := pf_F_a1_com_example_seqlint_seqlint_kafka_Batch_position.same W1
  show Goes p e below s _ _ _ (T1.setTop (mkF m 5 #[.val (.ref a1), .val (.long q2), .second, .val (.long q3), .second, .val (.int p4), .val (.long q5), .second, .val (.int p6), .val (.int p7), .val (.long q8), .second, .val (.long q9), .second, .val (.long q10), .second, .val (.int p11), .val (.int p12), .val (.int p13)] []))
  refine Goes.pre (fun t kt => XS.aloadN X1.here hx rfl (hb hby d3_5) rfl rfl kt) ?_
  show Goes p e below s _ _ _ (T1.setTop (mkF m 6 #[.val (.ref a1), .val (.long q2), .second, .val (.long q3), .second, .val (.int p4), .val (.long q5), .second, .val (.int p6), .val (.int p7), .val (.long q8), .second, .val (.long q9), .second, .val (.long q10), .second, .val (.int p11), .val (.int p12), .val (.int p13)] [(.ref a1)]))
  refine Goes.pre (fun t kt => XS.lloadN X1.here hx rfl (hb hby d3_6) rfl kt) ?_
  show Goes p e below s _ _ _ (T1.setTop (mkF m 7 #[.val (.ref a1), .val (.long q2), .second, .val (.long q3), .second, .val (.int p4), .val (.long q5), .second, .val (.int p6), .val (.int p7), .val (.long q8), .second, .val (.long q9), .second, .val (.long q10), .second, .val (.int p11), .val (.int p12), .val (.int p13)] [(.long q3), (.ref a1)]))
  have fc2 : Fld Z h1 a1 "com/example/seqlint/seqlint/kafka/Batch" "baseOffset" "J" u_baseOffset := (pf_F_a1_com_example_seqlint_seqlint_kafka_Batch_baseOffset.other W1 (Or.inr (slot_ne (Or.inl (hw _ (List.mem_of_getElem? (i := 17) rfl))) (Or.inl (hw _ (List.mem_of_getElem? (i := 15) rfl))) (by decide) (t := .long) (t' := .long) (by decide) (by decide))))
  have fc3 : Exa Z h1 a1 "com/example/seqlint/seqlint/kafka/Batch" := (pf_E_a1.wr W1)
  obtain ⟨T4, h4, X4, e4, W4, st4⟩ := putF X1 hx hZ hown (host := "") (Or.inl (hw _ (List.mem_of_getElem? (i := 16) rfl))) Via.refl e1 fc2 fc3 (Or.inl (hw _ (List.mem_of_getElem? (i := 17) rfl))) (hw _ (List.mem_of_getElem? (i := 1) rfl)) (ty := .long) (by decide) rfl rfl (g := (mkF m 7 #[.val (.ref a1), .val (.long q2), .second, .val (.long q3), .second, .val (.int p4), .val (.long q5), .second, .val (.int p6), .val (.int p7), .val (.long q8), .second, .val (.long q9), .second, .val (.long q10), .second, .val (.int p11), .val (.int p12), .val (.int p13)] [(.long q3), (.ref a1)])) rfl rfl (hb hby d3_7)
  refine Goes.pre st4 ?_
  have Z4 : n0 ≤ h4.size := Nat.le_trans Z1 (Keep.of_wr W4).1
  have N4 := Fr.snoc X4 N1 pf_G_a1
  have K4 := K1.wr W4 (Or.inl (List.mem_of_getElem? (i := 0) rfl))
  have Fw4 : Fld Z h4 a1 "com/example/seqlint/seqlint/kafka/Batch" "baseOffset" "J" (.long q3) := fc2.same W4
  show Goes p e below s _ _ _ (T4.setTop (mkF m 10 #[.val (.ref a1), .val (.long q2), .second, .val (.long q3), .second, .val (.int p4), .val (.long q5), .second, .val (.int p6), .val (.int p7), .val (.long q8), .second, .val (.long q9), .second, .val (.long q10), .second, .val (.int p11), .val (.int p12), .val (.int p13)] []))
  refine Goes.pre (fun t kt => XS.aloadN X4.here hx rfl (hb hby d3_10) rfl rfl kt) ?_
  show Goes p e below s _ _ _ (T4.setTop (mkF m 11 #[.val (.ref a1), .val (.long q2), .second, .val (.long q3), .second, .val (.int p4), .val (.long q5), .second, .val (.int p6), .val (.int p7), .val (.long q8), .second, .val (.long q9), .second, .val (.long q10), .second, .val (.int p11), .val (.int p12), .val (.int p13)] [(.ref a1)]))
  refine Goes.pre (fun t kt => XS.iload X4.here hx rfl (hb hby d3_11) rfl kt) ?_
  show Goes p e below s _ _ _ (T4.setTop (mkF m 13 #[.val (.ref a1), .val (.long q2), .second, .val (.long q3), .second, .val (.int p4), .val (.long q5), .second, .val (.int p6), .val (.int p7), .val (.long q8), .second, .val (.long q9), .second, .val (.long q10), .second, .val (.int p11), .val (.int p12), .val (.int p13)] [(.int p4), (.ref a1)]))
  have fc5 : Fld Z h4 a1 "com/example/seqlint/seqlint/kafka/Batch" "leaderEpoch" "I" u_leaderEpoch := ((pf_F_a1_com_example_seqlint_seqlint_kafka_Batch_leaderEpoch.other W1 (Or.inr (slot_ne (Or.inl (hw _ (List.mem_of_getElem? (i := 19) rfl))) (Or.inl (hw _ (List.mem_of_getElem? (i := 15) rfl))) (by decide) (t := .int) (t' := .long) (by decide) (by decide)))).other W4 (Or.inr (slot_ne (Or.inl (hw _ (List.mem_of_getElem? (i := 19) rfl))) (Or.inl (hw _ (List.mem_of_getElem? (i := 17) rfl))) (by decide) (t := .int) (t' := .long) (by decide) (by decide))))
  have fc6 : Exa Z h4 a1 "com/example/seqlint/seqlint/kafka/Batch" := (fc3.wr W4)
  obtain ⟨T7, h7, X7, e7, W7, st7⟩ := putF X4 hx hZ hown (host := "") (Or.inl (hw _ (List.mem_of_getElem? (i := 18) rfl))) Via.refl e4 fc5 fc6 (Or.inl (hw _ (List.mem_of_getElem? (i := 19) rfl))) (hw _ (List.mem_of_getElem? (i := 1) rfl)) (ty := .int) (by decide) rfl rfl (g := (mkF m 13 #[.val (.ref a1), .val (.long q2), .second, .val (.long q3), .second, .val (.int p4), .val (.long q5), .second, .val (.int p6), .val (.int p7), .val (.long q8), .second, .val (.long q9), .second, .val (.long q10), .second, .val (.int p11), .val (.int p12), .val (.int p13)] [(.int p4), (.ref a1)])) rfl rfl (hb hby d3_13)
  refine Goes.pre st7 ?_
  have Z7 : n0 ≤ h7.size := Nat.le_trans Z4 (Keep.of_wr W7).1
  have N7 := Fr.snoc X7 N4 pf_G_a1
  have K7 := K4.wr W7 (Or.inl (List.mem_of_getElem? (i := 0) rfl))
  have Fw7 : Fld Z h7 a1 "com/example/seqlint/seqlint/kafka/Batch" "leaderEpoch" "I" (.int p4) := fc5.same W7
  show Goes p e below s _ _ _ (T7.setTop (mkF m 16 #[.val (.ref a1), .val (.long q2), .second, .val (.long q3), .second, .val (.int p4), .val (.long q5), .second, .val (.int p6), .val (.int p7), .val (.long q8), .second, .val (.long q9), .second, .val (.long q10), .second, .val (.int p11), .val (.int p12), .val (.int p13)] []))
  refine Goes.pre (fun t kt => XS.aloadN X7.here hx rfl (hb hby d3_16) rfl rfl kt) ?_
  show Goes p e below s _ _ _ (T7.setTop (mkF m 17 #[.val (.ref a1), .val (.long q2), .second, .val (.long q3), .second, .val (.int p4), .val (.long q5), .second, .val (.int p6), .val (.int p7), .val (.long q8), .second, .val (.long q9), .second, .val (.long q10), .second, .val (.int p11), .val (.int p12), .val (.int p13)] [(.ref a1)]))
  refine Goes.pre (fun t kt => XS.lload X7.here hx rfl (hb hby d3_17) rfl kt) ?_
  show Goes p e below s _ _ _ (T7.setTop (mkF m 19 #[.val (.ref a1), .val (.long q2), .second, .val (.long q3), .second, .val (.int p4), .val (.long q5), .second, .val (.int p6), .val (.int p7), .val (.long q8), .second, .val (.long q9), .second, .val (.long q10), .second, .val (.int p11), .val (.int p12), .val (.int p13)] [(.long q5), (.ref a1)]))
  have fc8 : Fld Z h7 a1 "com/example/seqlint/seqlint/kafka/Batch" "storedCrc" "J" u_storedCrc := (((pf_F_a1_com_example_seqlint_seqlint_kafka_Batch_storedCrc.other W1 (Or.inr (slot_ne (Or.inl (hw _ (List.mem_of_getElem? (i := 21) rfl))) (Or.inl (hw _ (List.mem_of_getElem? (i := 15) rfl))) (by decide) (t := .long) (t' := .long) (by decide) (by decide)))).other W4 (Or.inr (slot_ne (Or.inl (hw _ (List.mem_of_getElem? (i := 21) rfl))) (Or.inl (hw _ (List.mem_of_getElem? (i := 17) rfl))) (by decide) (t := .long) (t' := .long) (by decide) (by decide)))).other W7 (Or.inr (slot_ne (Or.inl (hw _ (List.mem_of_getElem? (i := 21) rfl))) (Or.inl (hw _ (List.mem_of_getElem? (i := 19) rfl))) (by decide) (t := .long) (t' := .int) (by decide) (by decide))))
  have fc9 : Exa Z h7 a1 "com/example/seqlint/seqlint/kafka/Batch" := (fc6.wr W7)
  obtain ⟨T10, h10, X10, e10, W10, st10⟩ := putF X7 hx hZ hown (host := "") (Or.inl (hw _ (List.mem_of_getElem? (i := 20) rfl))) Via.refl e7 fc8 fc9 (Or.inl (hw _ (List.mem_of_getElem? (i := 21) rfl))) (hw _ (List.mem_of_getElem? (i := 1) rfl)) (ty := .long) (by decide) rfl rfl (g := (mkF m 19 #[.val (.ref a1), .val (.long q2), .second, .val (.long q3), .second, .val (.int p4), .val (.long q5), .second, .val (.int p6), .val (.int p7), .val (.long q8), .second, .val (.long q9), .second, .val (.long q10), .second, .val (.int p11), .val (.int p12), .val (.int p13)] [(.long q5), (.ref a1)])) rfl rfl (hb hby d3_19)
  refine Goes.pre st10 ?_
  have Z10 : n0 ≤ h10.size := Nat.le_trans Z7 (Keep.of_wr W10).1
  have N10 := Fr.snoc X10 N7 pf_G_a1
  have K10 := K7.wr W10 (Or.inl (List.mem_of_getElem? (i := 0) rfl))
  have Fw10 : Fld Z h10 a1 "com/example/seqlint/seqlint/kafka/Batch" "storedCrc" "J" (.long q5) := fc8.same W10
  show Goes p e below s _ _ _ (T10.setTop (mkF m 22 #[.val (.ref a1), .val (.long q2), .second, .val (.long q3), .second, .val (.int p4), .val (.long q5), .second, .val (.int p6), .val (.int p7), .val (.long q8), .second, .val (.long q9), .second, .val (.long q10), .second, .val (.int p11), .val (.int p12), .val (.int p13)] []))
  refine Goes.pre (fun t kt => XS.aloadN X10.here hx rfl (hb hby d3_22) rfl rfl kt) ?_
  show Goes p e below s _ _ _ (T10.setTop (mkF m 23 #[.val (.ref a1), .val (.long q2), .second, .val (.long q3), .second, .val (.int p4), .val (.long q5), .second, .val (.int p6), .val (.int p7), .val (.long q8), .second, .val (.long q9), .second, .val (.long q10), .second, .val (.int p11), .val (.int p12), .val (.int p13)] [(.ref a1)]))
  refine Goes.pre (X10.ldc2Long hx hown (mvT hZ (hw _ (List.mem_of_getElem? (i := 22) rfl))) (g := (mkF m 23 #[.val (.ref a1), .val (.long q2), .second, .val (.long q3), .second, .val (.int p4), .val (.long q5), .second, .val (.int p6), .val (.int p7), .val (.long q8), .second, .val (.long q9), .second, .val (.long q10), .second, .val (.int p11), .val (.int p12), .val (.int p13)] [(.ref a1)])) rfl (hb hby d3_23)) ?_
  show Goes p e below s _ _ _ (T10.setTop (mkF m 26 #[.val (.ref a1), .val (.long q2), .second, .val (.long q3), .second, .val (.int p4), .val (.long q5), .second, .val (.int p6), .val (.int p7), .val (.long q8), .second, .val (.long q9), .second, .val (.long q10), .second, .val (.int p11), .val (.int p12), .val (.int p13)] [(.long (-1 : Int64)), (.ref a1)]))
  have fc11 : Fld Z h10 a1 "com/example/seqlint/seqlint/kafka/Batch" "computedCrc" "J" u_computedCrc := ((((pf_F_a1_com_example_seqlint_seqlint_kafka_Batch_computedCrc.other W1 (Or.inr (slot_ne (Or.inl (hw _ (List.mem_of_getElem? (i := 24) rfl))) (Or.inl (hw _ (List.mem_of_getElem? (i := 15) rfl))) (by decide) (t := .long) (t' := .long) (by decide) (by decide)))).other W4 (Or.inr (slot_ne (Or.inl (hw _ (List.mem_of_getElem? (i := 24) rfl))) (Or.inl (hw _ (List.mem_of_getElem? (i := 17) rfl))) (by decide) (t := .long) (t' := .long) (by decide) (by decide)))).other W7 (Or.inr (slot_ne (Or.inl (hw _ (List.mem_of_getElem? (i := 24) rfl))) (Or.inl (hw _ (List.mem_of_getElem? (i := 19) rfl))) (by decide) (t := .long) (t' := .int) (by decide) (by decide)))).other W10 (Or.inr (slot_ne (Or.inl (hw _ (List.mem_of_getElem? (i := 24) rfl))) (Or.inl (hw _ (List.mem_of_getElem? (i := 21) rfl))) (by decide) (t := .long) (t' := .long) (by decide) (by decide))))
  have fc12 : Exa Z h10 a1 "com/example/seqlint/seqlint/kafka/Batch" := (fc9.wr W10)
  obtain ⟨T13, h13, X13, e13, W13, st13⟩ := putF X10 hx hZ hown (host := "") (Or.inl (hw _ (List.mem_of_getElem? (i := 23) rfl))) Via.refl e10 fc11 fc12 (Or.inl (hw _ (List.mem_of_getElem? (i := 24) rfl))) (hw _ (List.mem_of_getElem? (i := 1) rfl)) (ty := .long) (by decide) rfl rfl (g := (mkF m 26 #[.val (.ref a1), .val (.long q2), .second, .val (.long q3), .second, .val (.int p4), .val (.long q5), .second, .val (.int p6), .val (.int p7), .val (.long q8), .second, .val (.long q9), .second, .val (.long q10), .second, .val (.int p11), .val (.int p12), .val (.int p13)] [(.long (-1 : Int64)), (.ref a1)])) rfl rfl (hb hby d3_26)
  refine Goes.pre st13 ?_
  have Z13 : n0 ≤ h13.size := Nat.le_trans Z10 (Keep.of_wr W13).1
  have N13 := Fr.snoc X13 N10 pf_G_a1
  have K13 := K10.wr W13 (Or.inl (List.mem_of_getElem? (i := 0) rfl))
  have Fw13 : Fld Z h13 a1 "com/example/seqlint/seqlint/kafka/Batch" "computedCrc" "J" (.long (-1 : Int64)) := fc11.same W13
  show Goes p e below s _ _ _ (T13.setTop (mkF m 29 #[.val (.ref a1), .val (.long q2), .second, .val (.long q3), .second, .val (.int p4), .val (.long q5), .second, .val (.int p6), .val (.int p7), .val (.long q8), .second, .val (.long q9), .second, .val (.long q10), .second, .val (.int p11), .val (.int p12), .val (.int p13)] []))
  refine Goes.pre (fun t kt => XS.aloadN X13.here hx rfl (hb hby d3_29) rfl rfl kt) ?_
  show Goes p e below s _ _ _ (T13.setTop (mkF m 30 #[.val (.ref a1), .val (.long q2), .second, .val (.long q3), .second, .val (.int p4), .val (.long q5), .second, .val (.int p6), .val (.int p7), .val (.long q8), .second, .val (.long q9), .second, .val (.long q10), .second, .val (.int p11), .val (.int p12), .val (.int p13)] [(.ref a1)]))
  refine Goes.pre (fun t kt => XS.iload X13.here hx rfl (hb hby d3_30) rfl kt) ?_
  show Goes p e below s _ _ _ (T13.setTop (mkF m 32 #[.val (.ref a1), .val (.long q2), .second, .val (.long q3), .second, .val (.int p4), .val (.long q5), .second, .val (.int p6), .val (.int p7), .val (.long q8), .second, .val (.long q9), .second, .val (.long q10), .second, .val (.int p11), .val (.int p12), .val (.int p13)] [(.int p6), (.ref a1)]))
  have fc14 : Fld Z h13 a1 "com/example/seqlint/seqlint/kafka/Batch" "attributes" "S" u_attributes := (((((pf_F_a1_com_example_seqlint_seqlint_kafka_Batch_attributes.other W1 (Or.inr (slot_ne (Or.inl (hw _ (List.mem_of_getElem? (i := 26) rfl))) (Or.inl (hw _ (List.mem_of_getElem? (i := 15) rfl))) (by decide) (t := .short) (t' := .long) (by decide) (by decide)))).other W4 (Or.inr (slot_ne (Or.inl (hw _ (List.mem_of_getElem? (i := 26) rfl))) (Or.inl (hw _ (List.mem_of_getElem? (i := 17) rfl))) (by decide) (t := .short) (t' := .long) (by decide) (by decide)))).other W7 (Or.inr (slot_ne (Or.inl (hw _ (List.mem_of_getElem? (i := 26) rfl))) (Or.inl (hw _ (List.mem_of_getElem? (i := 19) rfl))) (by decide) (t := .short) (t' := .int) (by decide) (by decide)))).other W10 (Or.inr (slot_ne (Or.inl (hw _ (List.mem_of_getElem? (i := 26) rfl))) (Or.inl (hw _ (List.mem_of_getElem? (i := 21) rfl))) (by decide) (t := .short) (t' := .long) (by decide) (by decide)))).other W13 (Or.inr (slot_ne (Or.inl (hw _ (List.mem_of_getElem? (i := 26) rfl))) (Or.inl (hw _ (List.mem_of_getElem? (i := 24) rfl))) (by decide) (t := .short) (t' := .long) (by decide) (by decide))))
  have fc15 : Exa Z h13 a1 "com/example/seqlint/seqlint/kafka/Batch" := (fc12.wr W13)
  obtain ⟨T16, h16, X16, e16, W16, st16⟩ := putFN X13 hx hZ hown (hw _ (List.mem_of_getElem? (i := 25) rfl)) Via.refl e13 fc14 fc15 (Or.inl (hw _ (List.mem_of_getElem? (i := 26) rfl))) (hw _ (List.mem_of_getElem? (i := 1) rfl)) (ty := .short) (v' := (.int (p6.toInt16.toInt32))) (by decide) rfl (fits_nar_short _) (g := (mkF m 32 #[.val (.ref a1), .val (.long q2), .second, .val (.long q3), .second, .val (.int p4), .val (.long q5), .second, .val (.int p6), .val (.int p7), .val (.long q8), .second, .val (.long q9), .second, .val (.long q10), .second, .val (.int p11), .val (.int p12), .val (.int p13)] [(.int p6), (.ref a1)])) rfl rfl (hb hby d3_32)
  refine Goes.pre st16 ?_
  have Z16 : n0 ≤ h16.size := Nat.le_trans Z13 (Keep.of_wr W16).1
  have N16 := Fr.snoc X16 N13 pf_G_a1
  have K16 := K13.wr W16 (Or.inl (List.mem_of_getElem? (i := 0) rfl))
  have Fw16 : Fld Z h16 a1 "com/example/seqlint/seqlint/kafka/Batch" "attributes" "S" (.int (p6.toInt16.toInt32)) := fc14.same W16
  show Goes p e below s _ _ _ (T16.setTop (mkF m 35 #[.val (.ref a1), .val (.long q2), .second, .val (.long q3), .second, .val (.int p4), .val (.long q5), .second, .val (.int p6), .val (.int p7), .val (.long q8), .second, .val (.long q9), .second, .val (.long q10), .second, .val (.int p11), .val (.int p12), .val (.int p13)] []))
  refine Goes.pre (fun t kt => XS.aloadN X16.here hx rfl (hb hby d3_35) rfl rfl kt) ?_
  show Goes p e below s _ _ _ (T16.setTop (mkF m 36 #[.val (.ref a1), .val (.long q2), .second, .val (.long q3), .second, .val (.int p4), .val (.long q5), .second, .val (.int p6), .val (.int p7), .val (.long q8), .second, .val (.long q9), .second, .val (.long q10), .second, .val (.int p11), .val (.int p12), .val (.int p13)] [(.ref a1)]))
  refine Goes.pre (fun t kt => XS.iload X16.here hx rfl (hb hby d3_36) rfl kt) ?_
  show Goes p e below s _ _ _ (T16.setTop (mkF m 38 #[.val (.ref a1), .val (.long q2), .second, .val (.long q3), .second, .val (.int p4), .val (.long q5), .second, .val (.int p6), .val (.int p7), .val (.long q8), .second, .val (.long q9), .second, .val (.long q10), .second, .val (.int p11), .val (.int p12), .val (.int p13)] [(.int p7), (.ref a1)]))
  have fc17 : Fld Z h16 a1 "com/example/seqlint/seqlint/kafka/Batch" "lastOffsetDelta" "I" u_lastOffsetDelta := ((((((pf_F_a1_com_example_seqlint_seqlint_kafka_Batch_lastOffsetDelta.other W1 (Or.inr (slot_ne (Or.inl (hw _ (List.mem_of_getElem? (i := 28) rfl))) (Or.inl (hw _ (List.mem_of_getElem? (i := 15) rfl))) (by decide) (t := .int) (t' := .long) (by decide) (by decide)))).other W4 (Or.inr (slot_ne (Or.inl (hw _ (List.mem_of_getElem? (i := 28) rfl))) (Or.inl (hw _ (List.mem_of_getElem? (i := 17) rfl))) (by decide) (t := .int) (t' := .long) (by decide) (by decide)))).other W7 (Or.inr (slot_ne (Or.inl (hw _ (List.mem_of_getElem? (i := 28) rfl))) (Or.inl (hw _ (List.mem_of_getElem? (i := 19) rfl))) (by decide) (t := .int) (t' := .int) (by decide) (by decide)))).other W10 (Or.inr (slot_ne (Or.inl (hw _ (List.mem_of_getElem? (i := 28) rfl))) (Or.inl (hw _ (List.mem_of_getElem? (i := 21) rfl))) (by decide) (t := .int) (t' := .long) (by decide) (by decide)))).other W13 (Or.inr (slot_ne (Or.inl (hw _ (List.mem_of_getElem? (i := 28) rfl))) (Or.inl (hw _ (List.mem_of_getElem? (i := 24) rfl))) (by decide) (t := .int) (t' := .long) (by decide) (by decide)))).other W16 (Or.inr (slot_ne (Or.inl (hw _ (List.mem_of_getElem? (i := 28) rfl))) (Or.inl (hw _ (List.mem_of_getElem? (i := 26) rfl))) (by decide) (t := .int) (t' := .short) (by decide) (by decide))))
  have fc18 : Exa Z h16 a1 "com/example/seqlint/seqlint/kafka/Batch" := (fc15.wr W16)
  obtain ⟨T19, h19, X19, e19, W19, st19⟩ := putF X16 hx hZ hown (host := "") (Or.inl (hw _ (List.mem_of_getElem? (i := 27) rfl))) Via.refl e16 fc17 fc18 (Or.inl (hw _ (List.mem_of_getElem? (i := 28) rfl))) (hw _ (List.mem_of_getElem? (i := 1) rfl)) (ty := .int) (by decide) rfl rfl (g := (mkF m 38 #[.val (.ref a1), .val (.long q2), .second, .val (.long q3), .second, .val (.int p4), .val (.long q5), .second, .val (.int p6), .val (.int p7), .val (.long q8), .second, .val (.long q9), .second, .val (.long q10), .second, .val (.int p11), .val (.int p12), .val (.int p13)] [(.int p7), (.ref a1)])) rfl rfl (hb hby d3_38)
  refine Goes.pre st19 ?_
  have Z19 : n0 ≤ h19.size := Nat.le_trans Z16 (Keep.of_wr W19).1
  have N19 := Fr.snoc X19 N16 pf_G_a1
  have K19 := K16.wr W19 (Or.inl (List.mem_of_getElem? (i := 0) rfl))
  have Fw19 : Fld Z h19 a1 "com/example/seqlint/seqlint/kafka/Batch" "lastOffsetDelta" "I" (.int p7) := fc17.same W19
  show Goes p e below s _ _ _ (T19.setTop (mkF m 41 #[.val (.ref a1), .val (.long q2), .second, .val (.long q3), .second, .val (.int p4), .val (.long q5), .second, .val (.int p6), .val (.int p7), .val (.long q8), .second, .val (.long q9), .second, .val (.long q10), .second, .val (.int p11), .val (.int p12), .val (.int p13)] []))
  refine Goes.pre (fun t kt => XS.aloadN X19.here hx rfl (hb hby d3_41) rfl rfl kt) ?_
  show Goes p e below s _ _ _ (T19.setTop (mkF m 42 #[.val (.ref a1), .val (.long q2), .second, .val (.long q3), .second, .val (.int p4), .val (.long q5), .second, .val (.int p6), .val (.int p7), .val (.long q8), .second, .val (.long q9), .second, .val (.long q10), .second, .val (.int p11), .val (.int p12), .val (.int p13)] [(.ref a1)]))
  refine Goes.pre (fun t kt => XS.lload X19.here hx rfl (hb hby d3_42) rfl kt) ?_
  show Goes p e below s _ _ _ (T19.setTop (mkF m 44 #[.val (.ref a1), .val (.long q2), .second, .val (.long q3), .second, .val (.int p4), .val (.long q5), .second, .val (.int p6), .val (.int p7), .val (.long q8), .second, .val (.long q9), .second, .val (.long q10), .second, .val (.int p11), .val (.int p12), .val (.int p13)] [(.long q8), (.ref a1)]))
  have fc20 : Fld Z h19 a1 "com/example/seqlint/seqlint/kafka/Batch" "firstTimestamp" "J" u_firstTimestamp := (((((((pf_F_a1_com_example_seqlint_seqlint_kafka_Batch_firstTimestamp.other W1 (Or.inr (slot_ne (Or.inl (hw _ (List.mem_of_getElem? (i := 30) rfl))) (Or.inl (hw _ (List.mem_of_getElem? (i := 15) rfl))) (by decide) (t := .long) (t' := .long) (by decide) (by decide)))).other W4 (Or.inr (slot_ne (Or.inl (hw _ (List.mem_of_getElem? (i := 30) rfl))) (Or.inl (hw _ (List.mem_of_getElem? (i := 17) rfl))) (by decide) (t := .long) (t' := .long) (by decide) (by decide)))).other W7 (Or.inr (slot_ne (Or.inl (hw _ (List.mem_of_getElem? (i := 30) rfl))) (Or.inl (hw _ (List.mem_of_getElem? (i := 19) rfl))) (by decide) (t := .long) (t' := .int) (by decide) (by decide)))).other W10 (Or.inr (slot_ne (Or.inl (hw _ (List.mem_of_getElem? (i := 30) rfl))) (Or.inl (hw _ (List.mem_of_getElem? (i := 21) rfl))) (by decide) (t := .long) (t' := .long) (by decide) (by decide)))).other W13 (Or.inr (slot_ne (Or.inl (hw _ (List.mem_of_getElem? (i := 30) rfl))) (Or.inl (hw _ (List.mem_of_getElem? (i := 24) rfl))) (by decide) (t := .long) (t' := .long) (by decide) (by decide)))).other W16 (Or.inr (slot_ne (Or.inl (hw _ (List.mem_of_getElem? (i := 30) rfl))) (Or.inl (hw _ (List.mem_of_getElem? (i := 26) rfl))) (by decide) (t := .long) (t' := .short) (by decide) (by decide)))).other W19 (Or.inr (slot_ne (Or.inl (hw _ (List.mem_of_getElem? (i := 30) rfl))) (Or.inl (hw _ (List.mem_of_getElem? (i := 28) rfl))) (by decide) (t := .long) (t' := .int) (by decide) (by decide))))
  have fc21 : Exa Z h19 a1 "com/example/seqlint/seqlint/kafka/Batch" := (fc18.wr W19)
  obtain ⟨T22, h22, X22, e22, W22, st22⟩ := putF X19 hx hZ hown (host := "") (Or.inl (hw _ (List.mem_of_getElem? (i := 29) rfl))) Via.refl e19 fc20 fc21 (Or.inl (hw _ (List.mem_of_getElem? (i := 30) rfl))) (hw _ (List.mem_of_getElem? (i := 1) rfl)) (ty := .long) (by decide) rfl rfl (g := (mkF m 44 #[.val (.ref a1), .val (.long q2), .second, .val (.long q3), .second, .val (.int p4), .val (.long q5), .second, .val (.int p6), .val (.int p7), .val (.long q8), .second, .val (.long q9), .second, .val (.long q10), .second, .val (.int p11), .val (.int p12), .val (.int p13)] [(.long q8), (.ref a1)])) rfl rfl (hb hby d3_44)
  refine Goes.pre st22 ?_
  have Z22 : n0 ≤ h22.size := Nat.le_trans Z19 (Keep.of_wr W22).1
  have N22 := Fr.snoc X22 N19 pf_G_a1
  have K22 := K19.wr W22 (Or.inl (List.mem_of_getElem? (i := 0) rfl))
  have Fw22 : Fld Z h22 a1 "com/example/seqlint/seqlint/kafka/Batch" "firstTimestamp" "J" (.long q8) := fc20.same W22
  show Goes p e below s _ _ _ (T22.setTop (mkF m 47 #[.val (.ref a1), .val (.long q2), .second, .val (.long q3), .second, .val (.int p4), .val (.long q5), .second, .val (.int p6), .val (.int p7), .val (.long q8), .second, .val (.long q9), .second, .val (.long q10), .second, .val (.int p11), .val (.int p12), .val (.int p13)] []))
  refine Goes.pre (fun t kt => XS.aloadN X22.here hx rfl (hb hby d3_47) rfl rfl kt) ?_
  show Goes p e below s _ _ _ (T22.setTop (mkF m 48 #[.val (.ref a1), .val (.long q2), .second, .val (.long q3), .second, .val (.int p4), .val (.long q5), .second, .val (.int p6), .val (.int p7), .val (.long q8), .second, .val (.long q9), .second, .val (.long q10), .second, .val (.int p11), .val (.int p12), .val (.int p13)] [(.ref a1)]))
  refine Goes.pre (fun t kt => XS.lload X22.here hx rfl (hb hby d3_48) rfl kt) ?_
  show Goes p e below s _ _ _ (T22.setTop (mkF m 50 #[.val (.ref a1), .val (.long q2), .second, .val (.long q3), .second, .val (.int p4), .val (.long q5), .second, .val (.int p6), .val (.int p7), .val (.long q8), .second, .val (.long q9), .second, .val (.long q10), .second, .val (.int p11), .val (.int p12), .val (.int p13)] [(.long q9), (.ref a1)]))
  have fc23 : Fld Z h22 a1 "com/example/seqlint/seqlint/kafka/Batch" "maxTimestamp" "J" u_maxTimestamp := ((((((((pf_F_a1_com_example_seqlint_seqlint_kafka_Batch_maxTimestamp.other W1 (Or.inr (slot_ne (Or.inl (hw _ (List.mem_of_getElem? (i := 32) rfl))) (Or.inl (hw _ (List.mem_of_getElem? (i := 15) rfl))) (by decide) (t := .long) (t' := .long) (by decide) (by decide)))).other W4 (Or.inr (slot_ne (Or.inl (hw _ (List.mem_of_getElem? (i := 32) rfl))) (Or.inl (hw _ (List.mem_of_getElem? (i := 17) rfl))) (by decide) (t := .long) (t' := .long) (by decide) (by decide)))).other W7 (Or.inr (slot_ne (Or.inl (hw _ (List.mem_of_getElem? (i := 32) rfl))) (Or.inl (hw _ (List.mem_of_getElem? (i := 19) rfl))) (by decide) (t := .long) (t' := .int) (by decide) (by decide)))).other W10 (Or.inr (slot_ne (Or.inl (hw _ (List.mem_of_getElem? (i := 32) rfl))) (Or.inl (hw _ (List.mem_of_getElem? (i := 21) rfl))) (by decide) (t := .long) (t' := .long) (by decide) (by decide)))).other W13 (Or.inr (slot_ne (Or.inl (hw _ (List.mem_of_getElem? (i := 32) rfl))) (Or.inl (hw _ (List.mem_of_getElem? (i := 24) rfl))) (by decide) (t := .long) (t' := .long) (by decide) (by decide)))).other W16 (Or.inr (slot_ne (Or.inl (hw _ (List.mem_of_getElem? (i := 32) rfl))) (Or.inl (hw _ (List.mem_of_getElem? (i := 26) rfl))) (by decide) (t := .long) (t' := .short) (by decide) (by decide)))).other W19 (Or.inr (slot_ne (Or.inl (hw _ (List.mem_of_getElem? (i := 32) rfl))) (Or.inl (hw _ (List.mem_of_getElem? (i := 28) rfl))) (by decide) (t := .long) (t' := .int) (by decide) (by decide)))).other W22 (Or.inr (slot_ne (Or.inl (hw _ (List.mem_of_getElem? (i := 32) rfl))) (Or.inl (hw _ (List.mem_of_getElem? (i := 30) rfl))) (by decide) (t := .long) (t' := .long) (by decide) (by decide))))
  have fc24 : Exa Z h22 a1 "com/example/seqlint/seqlint/kafka/Batch" := (fc21.wr W22)
  obtain ⟨T25, h25, X25, e25, W25, st25⟩ := putF X22 hx hZ hown (host := "") (Or.inl (hw _ (List.mem_of_getElem? (i := 31) rfl))) Via.refl e22 fc23 fc24 (Or.inl (hw _ (List.mem_of_getElem? (i := 32) rfl))) (hw _ (List.mem_of_getElem? (i := 1) rfl)) (ty := .long) (by decide) rfl rfl (g := (mkF m 50 #[.val (.ref a1), .val (.long q2), .second, .val (.long q3), .second, .val (.int p4), .val (.long q5), .second, .val (.int p6), .val (.int p7), .val (.long q8), .second, .val (.long q9), .second, .val (.long q10), .second, .val (.int p11), .val (.int p12), .val (.int p13)] [(.long q9), (.ref a1)])) rfl rfl (hb hby d3_50)
  refine Goes.pre st25 ?_
  have Z25 : n0 ≤ h25.size := Nat.le_trans Z22 (Keep.of_wr W25).1
  have N25 := Fr.snoc X25 N22 pf_G_a1
  have K25 := K22.wr W25 (Or.inl (List.mem_of_getElem? (i := 0) rfl))
  have Fw25 : Fld Z h25 a1 "com/example/seqlint/seqlint/kafka/Batch" "maxTimestamp" "J" (.long q9) := fc23.same W25
  show Goes p e below s _ _ _ (T25.setTop (mkF m 53 #[.val (.ref a1), .val (.long q2), .second, .val (.long q3), .second, .val (.int p4), .val (.long q5), .second, .val (.int p6), .val (.int p7), .val (.long q8), .second, .val (.long q9), .second, .val (.long q10), .second, .val (.int p11), .val (.int p12), .val (.int p13)] []))
  refine Goes.pre (fun t kt => XS.aloadN X25.here hx rfl (hb hby d3_53) rfl rfl kt) ?_
  show Goes p e below s _ _ _ (T25.setTop (mkF m 54 #[.val (.ref a1), .val (.long q2), .second, .val (.long q3), .second, .val (.int p4), .val (.long q5), .second, .val (.int p6), .val (.int p7), .val (.long q8), .second, .val (.long q9), .second, .val (.long q10), .second, .val (.int p11), .val (.int p12), .val (.int p13)] [(.ref a1)]))
  refine Goes.pre (fun t kt => XS.lload X25.here hx rfl (hb hby d3_54) rfl kt) ?_
  show Goes p e below s _ _ _ (T25.setTop (mkF m 56 #[.val (.ref a1), .val (.long q2), .second, .val (.long q3), .second, .val (.int p4), .val (.long q5), .second, .val (.int p6), .val (.int p7), .val (.long q8), .second, .val (.long q9), .second, .val (.long q10), .second, .val (.int p11), .val (.int p12), .val (.int p13)] [(.long q10), (.ref a1)]))
  have fc26 : Fld Z h25 a1 "com/example/seqlint/seqlint/kafka/Batch" "producerId" "J" u_producerId := (((((((((pf_F_a1_com_example_seqlint_seqlint_kafka_Batch_producerId.other W1 (Or.inr (slot_ne (Or.inl (hw _ (List.mem_of_getElem? (i := 34) rfl))) (Or.inl (hw _ (List.mem_of_getElem? (i := 15) rfl))) (by decide) (t := .long) (t' := .long) (by decide) (by decide)))).other W4 (Or.inr (slot_ne (Or.inl (hw _ (List.mem_of_getElem? (i := 34) rfl))) (Or.inl (hw _ (List.mem_of_getElem? (i := 17) rfl))) (by decide) (t := .long) (t' := .long) (by decide) (by decide)))).other W7 (Or.inr (slot_ne (Or.inl (hw _ (List.mem_of_getElem? (i := 34) rfl))) (Or.inl (hw _ (List.mem_of_getElem? (i := 19) rfl))) (by decide) (t := .long) (t' := .int) (by decide) (by decide)))).other W10 (Or.inr (slot_ne (Or.inl (hw _ (List.mem_of_getElem? (i := 34) rfl))) (Or.inl (hw _ (List.mem_of_getElem? (i := 21) rfl))) (by decide) (t := .long) (t' := .long) (by decide) (by decide)))).other W13 (Or.inr (slot_ne (Or.inl (hw _ (List.mem_of_getElem? (i := 34) rfl))) (Or.inl (hw _ (List.mem_of_getElem? (i := 24) rfl))) (by decide) (t := .long) (t' := .long) (by decide) (by decide)))).other W16 (Or.inr (slot_ne (Or.inl (hw _ (List.mem_of_getElem? (i := 34) rfl))) (Or.inl (hw _ (List.mem_of_getElem? (i := 26) rfl))) (by decide) (t := .long) (t' := .short) (by decide) (by decide)))).other W19 (Or.inr (slot_ne (Or.inl (hw _ (List.mem_of_getElem? (i := 34) rfl))) (Or.inl (hw _ (List.mem_of_getElem? (i := 28) rfl))) (by decide) (t := .long) (t' := .int) (by decide) (by decide)))).other W22 (Or.inr (slot_ne (Or.inl (hw _ (List.mem_of_getElem? (i := 34) rfl))) (Or.inl (hw _ (List.mem_of_getElem? (i := 30) rfl))) (by decide) (t := .long) (t' := .long) (by decide) (by decide)))).other W25 (Or.inr (slot_ne (Or.inl (hw _ (List.mem_of_getElem? (i := 34) rfl))) (Or.inl (hw _ (List.mem_of_getElem? (i := 32) rfl))) (by decide) (t := .long) (t' := .long) (by decide) (by decide))))
  have fc27 : Exa Z h25 a1 "com/example/seqlint/seqlint/kafka/Batch" := (fc24.wr W25)
  obtain ⟨T28, h28, X28, e28, W28, st28⟩ := putF X25 hx hZ hown (host := "") (Or.inl (hw _ (List.mem_of_getElem? (i := 33) rfl))) Via.refl e25 fc26 fc27 (Or.inl (hw _ (List.mem_of_getElem? (i := 34) rfl))) (hw _ (List.mem_of_getElem? (i := 1) rfl)) (ty := .long) (by decide) rfl rfl (g := (mkF m 56 #[.val (.ref a1), .val (.long q2), .second, .val (.long q3), .second, .val (.int p4), .val (.long q5), .second, .val (.int p6), .val (.int p7), .val (.long q8), .second, .val (.long q9), .second, .val (.long q10), .second, .val (.int p11), .val (.int p12), .val (.int p13)] [(.long q10), (.ref a1)])) rfl rfl (hb hby d3_56)
  refine Goes.pre st28 ?_
  have Z28 : n0 ≤ h28.size := Nat.le_trans Z25 (Keep.of_wr W28).1
  have N28 := Fr.snoc X28 N25 pf_G_a1
  have K28 := K25.wr W28 (Or.inl (List.mem_of_getElem? (i := 0) rfl))
  have Fw28 : Fld Z h28 a1 "com/example/seqlint/seqlint/kafka/Batch" "producerId" "J" (.long q10) := fc26.same W28
  show Goes p e below s _ _ _ (T28.setTop (mkF m 59 #[.val (.ref a1), .val (.long q2), .second, .val (.long q3), .second, .val (.int p4), .val (.long q5), .second, .val (.int p6), .val (.int p7), .val (.long q8), .second, .val (.long q9), .second, .val (.long q10), .second, .val (.int p11), .val (.int p12), .val (.int p13)] []))
  refine Goes.pre (fun t kt => XS.aloadN X28.here hx rfl (hb hby d3_59) rfl rfl kt) ?_
  show Goes p e below s _ _ _ (T28.setTop (mkF m 60 #[.val (.ref a1), .val (.long q2), .second, .val (.long q3), .second, .val (.int p4), .val (.long q5), .second, .val (.int p6), .val (.int p7), .val (.long q8), .second, .val (.long q9), .second, .val (.long q10), .second, .val (.int p11), .val (.int p12), .val (.int p13)] [(.ref a1)]))
  refine Goes.pre (fun t kt => XS.iload X28.here hx rfl (hb hby d3_60) rfl kt) ?_
  show Goes p e below s _ _ _ (T28.setTop (mkF m 62 #[.val (.ref a1), .val (.long q2), .second, .val (.long q3), .second, .val (.int p4), .val (.long q5), .second, .val (.int p6), .val (.int p7), .val (.long q8), .second, .val (.long q9), .second, .val (.long q10), .second, .val (.int p11), .val (.int p12), .val (.int p13)] [(.int p11), (.ref a1)]))
  have fc29 : Fld Z h28 a1 "com/example/seqlint/seqlint/kafka/Batch" "producerEpoch" "S" u_producerEpoch := ((((((((((pf_F_a1_com_example_seqlint_seqlint_kafka_Batch_producerEpoch.other W1 (Or.inr (slot_ne (Or.inl (hw _ (List.mem_of_getElem? (i := 36) rfl))) (Or.inl (hw _ (List.mem_of_getElem? (i := 15) rfl))) (by decide) (t := .short) (t' := .long) (by decide) (by decide)))).other W4 (Or.inr (slot_ne (Or.inl (hw _ (List.mem_of_getElem? (i := 36) rfl))) (Or.inl (hw _ (List.mem_of_getElem? (i := 17) rfl))) (by decide) (t := .short) (t' := .long) (by decide) (by decide)))).other W7 (Or.inr (slot_ne (Or.inl (hw _ (List.mem_of_getElem? (i := 36) rfl))) (Or.inl (hw _ (List.mem_of_getElem? (i := 19) rfl))) (by decide) (t := .short) (t' := .int) (by decide) (by decide)))).other W10 (Or.inr (slot_ne (Or.inl (hw _ (List.mem_of_getElem? (i := 36) rfl))) (Or.inl (hw _ (List.mem_of_getElem? (i := 21) rfl))) (by decide) (t := .short) (t' := .long) (by decide) (by decide)))).other W13 (Or.inr (slot_ne (Or.inl (hw _ (List.mem_of_getElem? (i := 36) rfl))) (Or.inl (hw _ (List.mem_of_getElem? (i := 24) rfl))) (by decide) (t := .short) (t' := .long) (by decide) (by decide)))).other W16 (Or.inr (slot_ne (Or.inl (hw _ (List.mem_of_getElem? (i := 36) rfl))) (Or.inl (hw _ (List.mem_of_getElem? (i := 26) rfl))) (by decide) (t := .short) (t' := .short) (by decide) (by decide)))).other W19 (Or.inr (slot_ne (Or.inl (hw _ (List.mem_of_getElem? (i := 36) rfl))) (Or.inl (hw _ (List.mem_of_getElem? (i := 28) rfl))) (by decide) (t := .short) (t' := .int) (by decide) (by decide)))).other W22 (Or.inr (slot_ne (Or.inl (hw _ (List.mem_of_getElem? (i := 36) rfl))) (Or.inl (hw _ (List.mem_of_getElem? (i := 30) rfl))) (by decide) (t := .short) (t' := .long) (by decide) (by decide)))).other W25 (Or.inr (slot_ne (Or.inl (hw _ (List.mem_of_getElem? (i := 36) rfl))) (Or.inl (hw _ (List.mem_of_getElem? (i := 32) rfl))) (by decide) (t := .short) (t' := .long) (by decide) (by decide)))).other W28 (Or.inr (slot_ne (Or.inl (hw _ (List.mem_of_getElem? (i := 36) rfl))) (Or.inl (hw _ (List.mem_of_getElem? (i := 34) rfl))) (by decide) (t := .short) (t' := .long) (by decide) (by decide))))
  have fc30 : Exa Z h28 a1 "com/example/seqlint/seqlint/kafka/Batch" := (fc27.wr W28)
  obtain ⟨T31, h31, X31, e31, W31, st31⟩ := putFN X28 hx hZ hown (hw _ (List.mem_of_getElem? (i := 35) rfl)) Via.refl e28 fc29 fc30 (Or.inl (hw _ (List.mem_of_getElem? (i := 36) rfl))) (hw _ (List.mem_of_getElem? (i := 1) rfl)) (ty := .short) (v' := (.int (p11.toInt16.toInt32))) (by decide) rfl (fits_nar_short _) (g := (mkF m 62 #[.val (.ref a1), .val (.long q2), .second, .val (.long q3), .second, .val (.int p4), .val (.long q5), .second, .val (.int p6), .val (.int p7), .val (.long q8), .second, .val (.long q9), .second, .val (.long q10), .second, .val (.int p11), .val (.int p12), .val (.int p13)] [(.int p11), (.ref a1)])) rfl rfl (hb hby d3_62)
  refine Goes.pre st31 ?_
  have Z31 : n0 ≤ h31.size := Nat.le_trans Z28 (Keep.of_wr W31).1
  have N31 := Fr.snoc X31 N28 pf_G_a1
  have K31 := K28.wr W31 (Or.inl (List.mem_of_getElem? (i := 0) rfl))
  have Fw31 : Fld Z h31 a1 "com/example/seqlint/seqlint/kafka/Batch" "producerEpoch" "S" (.int (p11.toInt16.toInt32)) := fc29.same W31
  show Goes p e below s _ _ _ (T31.setTop (mkF m 65 #[.val (.ref a1), .val (.long q2), .second, .val (.long q3), .second, .val (.int p4), .val (.long q5), .second, .val (.int p6), .val (.int p7), .val (.long q8), .second, .val (.long q9), .second, .val (.long q10), .second, .val (.int p11), .val (.int p12), .val (.int p13)] []))
  refine Goes.pre (fun t kt => XS.aloadN X31.here hx rfl (hb hby d3_65) rfl rfl kt) ?_
  show Goes p e below s _ _ _ (T31.setTop (mkF m 66 #[.val (.ref a1), .val (.long q2), .second, .val (.long q3), .second, .val (.int p4), .val (.long q5), .second, .val (.int p6), .val (.int p7), .val (.long q8), .second, .val (.long q9), .second, .val (.long q10), .second, .val (.int p11), .val (.int p12), .val (.int p13)] [(.ref a1)]))
  refine Goes.pre (fun t kt => XS.iload X31.here hx rfl (hb hby d3_66) rfl kt) ?_
  show Goes p e below s _ _ _ (T31.setTop (mkF m 68 #[.val (.ref a1), .val (.long q2), .second, .val (.long q3), .second, .val (.int p4), .val (.long q5), .second, .val (.int p6), .val (.int p7), .val (.long q8), .second, .val (.long q9), .second, .val (.long q10), .second, .val (.int p11), .val (.int p12), .val (.int p13)] [(.int p12), (.ref a1)]))
  have fc32 : Fld Z h31 a1 "com/example/seqlint/seqlint/kafka/Batch" "baseSequence" "I" u_baseSequence := (((((((((((pf_F_a1_com_example_seqlint_seqlint_kafka_Batch_baseSequence.other W1 (Or.inr (slot_ne (Or.inl (hw _ (List.mem_of_getElem? (i := 38) rfl))) (Or.inl (hw _ (List.mem_of_getElem? (i := 15) rfl))) (by decide) (t := .int) (t' := .long) (by decide) (by decide)))).other W4 (Or.inr (slot_ne (Or.inl (hw _ (List.mem_of_getElem? (i := 38) rfl))) (Or.inl (hw _ (List.mem_of_getElem? (i := 17) rfl))) (by decide) (t := .int) (t' := .long) (by decide) (by decide)))).other W7 (Or.inr (slot_ne (Or.inl (hw _ (List.mem_of_getElem? (i := 38) rfl))) (Or.inl (hw _ (List.mem_of_getElem? (i := 19) rfl))) (by decide) (t := .int) (t' := .int) (by decide) (by decide)))).other W10 (Or.inr (slot_ne (Or.inl (hw _ (List.mem_of_getElem? (i := 38) rfl))) (Or.inl (hw _ (List.mem_of_getElem? (i := 21) rfl))) (by decide) (t := .int) (t' := .long) (by decide) (by decide)))).other W13 (Or.inr (slot_ne (Or.inl (hw _ (List.mem_of_getElem? (i := 38) rfl))) (Or.inl (hw _ (List.mem_of_getElem? (i := 24) rfl))) (by decide) (t := .int) (t' := .long) (by decide) (by decide)))).other W16 (Or.inr (slot_ne (Or.inl (hw _ (List.mem_of_getElem? (i := 38) rfl))) (Or.inl (hw _ (List.mem_of_getElem? (i := 26) rfl))) (by decide) (t := .int) (t' := .short) (by decide) (by decide)))).other W19 (Or.inr (slot_ne (Or.inl (hw _ (List.mem_of_getElem? (i := 38) rfl))) (Or.inl (hw _ (List.mem_of_getElem? (i := 28) rfl))) (by decide) (t := .int) (t' := .int) (by decide) (by decide)))).other W22 (Or.inr (slot_ne (Or.inl (hw _ (List.mem_of_getElem? (i := 38) rfl))) (Or.inl (hw _ (List.mem_of_getElem? (i := 30) rfl))) (by decide) (t := .int) (t' := .long) (by decide) (by decide)))).other W25 (Or.inr (slot_ne (Or.inl (hw _ (List.mem_of_getElem? (i := 38) rfl))) (Or.inl (hw _ (List.mem_of_getElem? (i := 32) rfl))) (by decide) (t := .int) (t' := .long) (by decide) (by decide)))).other W28 (Or.inr (slot_ne (Or.inl (hw _ (List.mem_of_getElem? (i := 38) rfl))) (Or.inl (hw _ (List.mem_of_getElem? (i := 34) rfl))) (by decide) (t := .int) (t' := .long) (by decide) (by decide)))).other W31 (Or.inr (slot_ne (Or.inl (hw _ (List.mem_of_getElem? (i := 38) rfl))) (Or.inl (hw _ (List.mem_of_getElem? (i := 36) rfl))) (by decide) (t := .int) (t' := .short) (by decide) (by decide))))
  have fc33 : Exa Z h31 a1 "com/example/seqlint/seqlint/kafka/Batch" := (fc30.wr W31)
  obtain ⟨T34, h34, X34, e34, W34, st34⟩ := putF X31 hx hZ hown (host := "") (Or.inl (hw _ (List.mem_of_getElem? (i := 37) rfl))) Via.refl e31 fc32 fc33 (Or.inl (hw _ (List.mem_of_getElem? (i := 38) rfl))) (hw _ (List.mem_of_getElem? (i := 1) rfl)) (ty := .int) (by decide) rfl rfl (g := (mkF m 68 #[.val (.ref a1), .val (.long q2), .second, .val (.long q3), .second, .val (.int p4), .val (.long q5), .second, .val (.int p6), .val (.int p7), .val (.long q8), .second, .val (.long q9), .second, .val (.long q10), .second, .val (.int p11), .val (.int p12), .val (.int p13)] [(.int p12), (.ref a1)])) rfl rfl (hb hby d3_68)
  refine Goes.pre st34 ?_
  have Z34 : n0 ≤ h34.size := Nat.le_trans Z31 (Keep.of_wr W34).1
  have N34 := Fr.snoc X34 N31 pf_G_a1
  have K34 := K31.wr W34 (Or.inl (List.mem_of_getElem? (i := 0) rfl))
  have Fw34 : Fld Z h34 a1 "com/example/seqlint/seqlint/kafka/Batch" "baseSequence" "I" (.int p12) := fc32.same W34
  show Goes p e below s _ _ _ (T34.setTop (mkF m 71 #[.val (.ref a1), .val (.long q2), .second, .val (.long q3), .second, .val (.int p4), .val (.long q5), .second, .val (.int p6), .val (.int p7), .val (.long q8), .second, .val (.long q9), .second, .val (.long q10), .second, .val (.int p11), .val (.int p12), .val (.int p13)] []))
  refine Goes.pre (fun t kt => XS.aloadN X34.here hx rfl (hb hby d3_71) rfl rfl kt) ?_
  show Goes p e below s _ _ _ (T34.setTop (mkF m 72 #[.val (.ref a1), .val (.long q2), .second, .val (.long q3), .second, .val (.int p4), .val (.long q5), .second, .val (.int p6), .val (.int p7), .val (.long q8), .second, .val (.long q9), .second, .val (.long q10), .second, .val (.int p11), .val (.int p12), .val (.int p13)] [(.ref a1)]))
  refine Goes.pre (fun t kt => XS.iload X34.here hx rfl (hb hby d3_72) rfl kt) ?_
  show Goes p e below s _ _ _ (T34.setTop (mkF m 74 #[.val (.ref a1), .val (.long q2), .second, .val (.long q3), .second, .val (.int p4), .val (.long q5), .second, .val (.int p6), .val (.int p7), .val (.long q8), .second, .val (.long q9), .second, .val (.long q10), .second, .val (.int p11), .val (.int p12), .val (.int p13)] [(.int p13), (.ref a1)]))
  have fc35 : Fld Z h34 a1 "com/example/seqlint/seqlint/kafka/Batch" "recordCount" "I" u_recordCount := ((((((((((((pf_F_a1_com_example_seqlint_seqlint_kafka_Batch_recordCount.other W1 (Or.inr (slot_ne (Or.inl (hw _ (List.mem_of_getElem? (i := 40) rfl))) (Or.inl (hw _ (List.mem_of_getElem? (i := 15) rfl))) (by decide) (t := .int) (t' := .long) (by decide) (by decide)))).other W4 (Or.inr (slot_ne (Or.inl (hw _ (List.mem_of_getElem? (i := 40) rfl))) (Or.inl (hw _ (List.mem_of_getElem? (i := 17) rfl))) (by decide) (t := .int) (t' := .long) (by decide) (by decide)))).other W7 (Or.inr (slot_ne (Or.inl (hw _ (List.mem_of_getElem? (i := 40) rfl))) (Or.inl (hw _ (List.mem_of_getElem? (i := 19) rfl))) (by decide) (t := .int) (t' := .int) (by decide) (by decide)))).other W10 (Or.inr (slot_ne (Or.inl (hw _ (List.mem_of_getElem? (i := 40) rfl))) (Or.inl (hw _ (List.mem_of_getElem? (i := 21) rfl))) (by decide) (t := .int) (t' := .long) (by decide) (by decide)))).other W13 (Or.inr (slot_ne (Or.inl (hw _ (List.mem_of_getElem? (i := 40) rfl))) (Or.inl (hw _ (List.mem_of_getElem? (i := 24) rfl))) (by decide) (t := .int) (t' := .long) (by decide) (by decide)))).other W16 (Or.inr (slot_ne (Or.inl (hw _ (List.mem_of_getElem? (i := 40) rfl))) (Or.inl (hw _ (List.mem_of_getElem? (i := 26) rfl))) (by decide) (t := .int) (t' := .short) (by decide) (by decide)))).other W19 (Or.inr (slot_ne (Or.inl (hw _ (List.mem_of_getElem? (i := 40) rfl))) (Or.inl (hw _ (List.mem_of_getElem? (i := 28) rfl))) (by decide) (t := .int) (t' := .int) (by decide) (by decide)))).other W22 (Or.inr (slot_ne (Or.inl (hw _ (List.mem_of_getElem? (i := 40) rfl))) (Or.inl (hw _ (List.mem_of_getElem? (i := 30) rfl))) (by decide) (t := .int) (t' := .long) (by decide) (by decide)))).other W25 (Or.inr (slot_ne (Or.inl (hw _ (List.mem_of_getElem? (i := 40) rfl))) (Or.inl (hw _ (List.mem_of_getElem? (i := 32) rfl))) (by decide) (t := .int) (t' := .long) (by decide) (by decide)))).other W28 (Or.inr (slot_ne (Or.inl (hw _ (List.mem_of_getElem? (i := 40) rfl))) (Or.inl (hw _ (List.mem_of_getElem? (i := 34) rfl))) (by decide) (t := .int) (t' := .long) (by decide) (by decide)))).other W31 (Or.inr (slot_ne (Or.inl (hw _ (List.mem_of_getElem? (i := 40) rfl))) (Or.inl (hw _ (List.mem_of_getElem? (i := 36) rfl))) (by decide) (t := .int) (t' := .short) (by decide) (by decide)))).other W34 (Or.inr (slot_ne (Or.inl (hw _ (List.mem_of_getElem? (i := 40) rfl))) (Or.inl (hw _ (List.mem_of_getElem? (i := 38) rfl))) (by decide) (t := .int) (t' := .int) (by decide) (by decide))))
  have fc36 : Exa Z h34 a1 "com/example/seqlint/seqlint/kafka/Batch" := (fc33.wr W34)
  obtain ⟨T37, h37, X37, e37, W37, st37⟩ := putF X34 hx hZ hown (host := "") (Or.inl (hw _ (List.mem_of_getElem? (i := 39) rfl))) Via.refl e34 fc35 fc36 (Or.inl (hw _ (List.mem_of_getElem? (i := 40) rfl))) (hw _ (List.mem_of_getElem? (i := 1) rfl)) (ty := .int) (by decide) rfl rfl (g := (mkF m 74 #[.val (.ref a1), .val (.long q2), .second, .val (.long q3), .second, .val (.int p4), .val (.long q5), .second, .val (.int p6), .val (.int p7), .val (.long q8), .second, .val (.long q9), .second, .val (.long q10), .second, .val (.int p11), .val (.int p12), .val (.int p13)] [(.int p13), (.ref a1)])) rfl rfl (hb hby d3_74)
  refine Goes.pre st37 ?_
  have Z37 : n0 ≤ h37.size := Nat.le_trans Z34 (Keep.of_wr W37).1
  have N37 := Fr.snoc X37 N34 pf_G_a1
  have K37 := K34.wr W37 (Or.inl (List.mem_of_getElem? (i := 0) rfl))
  have Fw37 : Fld Z h37 a1 "com/example/seqlint/seqlint/kafka/Batch" "recordCount" "I" (.int p13) := fc35.same W37
  show Goes p e below s _ _ _ (T37.setTop (mkF m 77 #[.val (.ref a1), .val (.long q2), .second, .val (.long q3), .second, .val (.int p4), .val (.long q5), .second, .val (.int p6), .val (.int p7), .val (.long q8), .second, .val (.long q9), .second, .val (.long q10), .second, .val (.int p11), .val (.int p12), .val (.int p13)] []))
  refine Goes.pre (fun t kt => XS.aloadN X37.here hx rfl (hb hby d3_77) rfl rfl kt) ?_
  show Goes p e below s _ _ _ (T37.setTop (mkF m 78 #[.val (.ref a1), .val (.long q2), .second, .val (.long q3), .second, .val (.int p4), .val (.long q5), .second, .val (.int p6), .val (.int p7), .val (.long q8), .second, .val (.long q9), .second, .val (.long q10), .second, .val (.int p11), .val (.int p12), .val (.int p13)] [(.ref a1)]))
  refine Goes.pre (fun t kt => XS.aconstNull X37.here hx rfl (hb hby d3_78) kt) ?_
  show Goes p e below s _ _ _ (T37.setTop (mkF m 79 #[.val (.ref a1), .val (.long q2), .second, .val (.long q3), .second, .val (.int p4), .val (.long q5), .second, .val (.int p6), .val (.int p7), .val (.long q8), .second, .val (.long q9), .second, .val (.long q10), .second, .val (.int p11), .val (.int p12), .val (.int p13)] [.null, (.ref a1)]))
  have fc38 : Fld Z h37 a1 "com/example/seqlint/seqlint/kafka/Batch" "marker" "Lcom/example/seqlint/seqlint/kafka/Batch$Marker;" u_marker := (((((((((((((pf_F_a1_com_example_seqlint_seqlint_kafka_Batch_marker.other W1 (Or.inr (slot_ne (Or.inl (hw _ (List.mem_of_getElem? (i := 42) rfl))) (Or.inl (hw _ (List.mem_of_getElem? (i := 15) rfl))) (by decide) (t := (.object "com/example/seqlint/seqlint/kafka/Batch$Marker")) (t' := .long) (by decide) (by decide)))).other W4 (Or.inr (slot_ne (Or.inl (hw _ (List.mem_of_getElem? (i := 42) rfl))) (Or.inl (hw _ (List.mem_of_getElem? (i := 17) rfl))) (by decide) (t := (.object "com/example/seqlint/seqlint/kafka/Batch$Marker")) (t' := .long) (by decide) (by decide)))).other W7 (Or.inr (slot_ne (Or.inl (hw _ (List.mem_of_getElem? (i := 42) rfl))) (Or.inl (hw _ (List.mem_of_getElem? (i := 19) rfl))) (by decide) (t := (.object "com/example/seqlint/seqlint/kafka/Batch$Marker")) (t' := .int) (by decide) (by decide)))).other W10 (Or.inr (slot_ne (Or.inl (hw _ (List.mem_of_getElem? (i := 42) rfl))) (Or.inl (hw _ (List.mem_of_getElem? (i := 21) rfl))) (by decide) (t := (.object "com/example/seqlint/seqlint/kafka/Batch$Marker")) (t' := .long) (by decide) (by decide)))).other W13 (Or.inr (slot_ne (Or.inl (hw _ (List.mem_of_getElem? (i := 42) rfl))) (Or.inl (hw _ (List.mem_of_getElem? (i := 24) rfl))) (by decide) (t := (.object "com/example/seqlint/seqlint/kafka/Batch$Marker")) (t' := .long) (by decide) (by decide)))).other W16 (Or.inr (slot_ne (Or.inl (hw _ (List.mem_of_getElem? (i := 42) rfl))) (Or.inl (hw _ (List.mem_of_getElem? (i := 26) rfl))) (by decide) (t := (.object "com/example/seqlint/seqlint/kafka/Batch$Marker")) (t' := .short) (by decide) (by decide)))).other W19 (Or.inr (slot_ne (Or.inl (hw _ (List.mem_of_getElem? (i := 42) rfl))) (Or.inl (hw _ (List.mem_of_getElem? (i := 28) rfl))) (by decide) (t := (.object "com/example/seqlint/seqlint/kafka/Batch$Marker")) (t' := .int) (by decide) (by decide)))).other W22 (Or.inr (slot_ne (Or.inl (hw _ (List.mem_of_getElem? (i := 42) rfl))) (Or.inl (hw _ (List.mem_of_getElem? (i := 30) rfl))) (by decide) (t := (.object "com/example/seqlint/seqlint/kafka/Batch$Marker")) (t' := .long) (by decide) (by decide)))).other W25 (Or.inr (slot_ne (Or.inl (hw _ (List.mem_of_getElem? (i := 42) rfl))) (Or.inl (hw _ (List.mem_of_getElem? (i := 32) rfl))) (by decide) (t := (.object "com/example/seqlint/seqlint/kafka/Batch$Marker")) (t' := .long) (by decide) (by decide)))).other W28 (Or.inr (slot_ne (Or.inl (hw _ (List.mem_of_getElem? (i := 42) rfl))) (Or.inl (hw _ (List.mem_of_getElem? (i := 34) rfl))) (by decide) (t := (.object "com/example/seqlint/seqlint/kafka/Batch$Marker")) (t' := .long) (by decide) (by decide)))).other W31 (Or.inr (slot_ne (Or.inl (hw _ (List.mem_of_getElem? (i := 42) rfl))) (Or.inl (hw _ (List.mem_of_getElem? (i := 36) rfl))) (by decide) (t := (.object "com/example/seqlint/seqlint/kafka/Batch$Marker")) (t' := .short) (by decide) (by decide)))).other W34 (Or.inr (slot_ne (Or.inl (hw _ (List.mem_of_getElem? (i := 42) rfl))) (Or.inl (hw _ (List.mem_of_getElem? (i := 38) rfl))) (by decide) (t := (.object "com/example/seqlint/seqlint/kafka/Batch$Marker")) (t' := .int) (by decide) (by decide)))).other W37 (Or.inr (slot_ne (Or.inl (hw _ (List.mem_of_getElem? (i := 42) rfl))) (Or.inl (hw _ (List.mem_of_getElem? (i := 40) rfl))) (by decide) (t := (.object "com/example/seqlint/seqlint/kafka/Batch$Marker")) (t' := .int) (by decide) (by decide))))
  have fc39 : Exa Z h37 a1 "com/example/seqlint/seqlint/kafka/Batch" := (fc36.wr W37)
  obtain ⟨T40, h40, X40, e40, W40, st40⟩ := putF X37 hx hZ hown (host := "") (Or.inl (hw _ (List.mem_of_getElem? (i := 41) rfl))) Via.refl e37 fc38 fc39 (Or.inl (hw _ (List.mem_of_getElem? (i := 42) rfl))) (hw _ (List.mem_of_getElem? (i := 1) rfl)) (ty := (.object "com/example/seqlint/seqlint/kafka/Batch$Marker")) (by decide) rfl rfl (g := (mkF m 79 #[.val (.ref a1), .val (.long q2), .second, .val (.long q3), .second, .val (.int p4), .val (.long q5), .second, .val (.int p6), .val (.int p7), .val (.long q8), .second, .val (.long q9), .second, .val (.long q10), .second, .val (.int p11), .val (.int p12), .val (.int p13)] [.null, (.ref a1)])) rfl rfl (hb hby d3_79)
  refine Goes.pre st40 ?_
  have Z40 : n0 ≤ h40.size := Nat.le_trans Z37 (Keep.of_wr W40).1
  have N40 := Fr.snoc X40 N37 pf_G_a1
  have K40 := K37.wr W40 (Or.inl (List.mem_of_getElem? (i := 0) rfl))
  have Fw40 : Fld Z h40 a1 "com/example/seqlint/seqlint/kafka/Batch" "marker" "Lcom/example/seqlint/seqlint/kafka/Batch$Marker;" .null := fc38.same W40
  show Goes p e below s _ _ _ (T40.setTop (mkF m 82 #[.val (.ref a1), .val (.long q2), .second, .val (.long q3), .second, .val (.int p4), .val (.long q5), .second, .val (.int p6), .val (.int p7), .val (.long q8), .second, .val (.long q9), .second, .val (.long q10), .second, .val (.int p11), .val (.int p12), .val (.int p13)] []))
  have fc41 : Fld Z h40 a1 "com/example/seqlint/seqlint/kafka/Batch" "position" "J" (.long q2) := (((((((((((((Fw1.other W4 (Or.inr (slot_ne (Or.inl (hw _ (List.mem_of_getElem? (i := 15) rfl))) (Or.inl (hw _ (List.mem_of_getElem? (i := 17) rfl))) (by decide) (t := .long) (t' := .long) (by decide) (by decide)))).other W7 (Or.inr (slot_ne (Or.inl (hw _ (List.mem_of_getElem? (i := 15) rfl))) (Or.inl (hw _ (List.mem_of_getElem? (i := 19) rfl))) (by decide) (t := .long) (t' := .int) (by decide) (by decide)))).other W10 (Or.inr (slot_ne (Or.inl (hw _ (List.mem_of_getElem? (i := 15) rfl))) (Or.inl (hw _ (List.mem_of_getElem? (i := 21) rfl))) (by decide) (t := .long) (t' := .long) (by decide) (by decide)))).other W13 (Or.inr (slot_ne (Or.inl (hw _ (List.mem_of_getElem? (i := 15) rfl))) (Or.inl (hw _ (List.mem_of_getElem? (i := 24) rfl))) (by decide) (t := .long) (t' := .long) (by decide) (by decide)))).other W16 (Or.inr (slot_ne (Or.inl (hw _ (List.mem_of_getElem? (i := 15) rfl))) (Or.inl (hw _ (List.mem_of_getElem? (i := 26) rfl))) (by decide) (t := .long) (t' := .short) (by decide) (by decide)))).other W19 (Or.inr (slot_ne (Or.inl (hw _ (List.mem_of_getElem? (i := 15) rfl))) (Or.inl (hw _ (List.mem_of_getElem? (i := 28) rfl))) (by decide) (t := .long) (t' := .int) (by decide) (by decide)))).other W22 (Or.inr (slot_ne (Or.inl (hw _ (List.mem_of_getElem? (i := 15) rfl))) (Or.inl (hw _ (List.mem_of_getElem? (i := 30) rfl))) (by decide) (t := .long) (t' := .long) (by decide) (by decide)))).other W25 (Or.inr (slot_ne (Or.inl (hw _ (List.mem_of_getElem? (i := 15) rfl))) (Or.inl (hw _ (List.mem_of_getElem? (i := 32) rfl))) (by decide) (t := .long) (t' := .long) (by decide) (by decide)))).other W28 (Or.inr (slot_ne (Or.inl (hw _ (List.mem_of_getElem? (i := 15) rfl))) (Or.inl (hw _ (List.mem_of_getElem? (i := 34) rfl))) (by decide) (t := .long) (t' := .long) (by decide) (by decide)))).other W31 (Or.inr (slot_ne (Or.inl (hw _ (List.mem_of_getElem? (i := 15) rfl))) (Or.inl (hw _ (List.mem_of_getElem? (i := 36) rfl))) (by decide) (t := .long) (t' := .short) (by decide) (by decide)))).other W34 (Or.inr (slot_ne (Or.inl (hw _ (List.mem_of_getElem? (i := 15) rfl))) (Or.inl (hw _ (List.mem_of_getElem? (i := 38) rfl))) (by decide) (t := .long) (t' := .int) (by decide) (by decide)))).other W37 (Or.inr (slot_ne (Or.inl (hw _ (List.mem_of_getElem? (i := 15) rfl))) (Or.inl (hw _ (List.mem_of_getElem? (i := 40) rfl))) (by decide) (t := .long) (t' := .int) (by decide) (by decide)))).other W40 (Or.inr (slot_ne (Or.inl (hw _ (List.mem_of_getElem? (i := 15) rfl))) (Or.inl (hw _ (List.mem_of_getElem? (i := 42) rfl))) (by decide) (t := .long) (t' := (.object "com/example/seqlint/seqlint/kafka/Batch$Marker")) (by decide) (by decide))))
  have fc42 : Fld Z h40 a1 "com/example/seqlint/seqlint/kafka/Batch" "baseOffset" "J" (.long q3) := ((((((((((((Fw4.other W7 (Or.inr (slot_ne (Or.inl (hw _ (List.mem_of_getElem? (i := 17) rfl))) (Or.inl (hw _ (List.mem_of_getElem? (i := 19) rfl))) (by decide) (t := .long) (t' := .int) (by decide) (by decide)))).other W10 (Or.inr (slot_ne (Or.inl (hw _ (List.mem_of_getElem? (i := 17) rfl))) (Or.inl (hw _ (List.mem_of_getElem? (i := 21) rfl))) (by decide) (t := .long) (t' := .long) (by decide) (by decide)))).other W13 (Or.inr (slot_ne (Or.inl (hw _ (List.mem_of_getElem? (i := 17) rfl))) (Or.inl (hw _ (List.mem_of_getElem? (i := 24) rfl))) (by decide) (t := .long) (t' := .long) (by decide) (by decide)))).other W16 (Or.inr (slot_ne (Or.inl (hw _ (List.mem_of_getElem? (i := 17) rfl))) (Or.inl (hw _ (List.mem_of_getElem? (i := 26) rfl))) (by decide) (t := .long) (t' := .short) (by decide) (by decide)))).other W19 (Or.inr (slot_ne (Or.inl (hw _ (List.mem_of_getElem? (i := 17) rfl))) (Or.inl (hw _ (List.mem_of_getElem? (i := 28) rfl))) (by decide) (t := .long) (t' := .int) (by decide) (by decide)))).other W22 (Or.inr (slot_ne (Or.inl (hw _ (List.mem_of_getElem? (i := 17) rfl))) (Or.inl (hw _ (List.mem_of_getElem? (i := 30) rfl))) (by decide) (t := .long) (t' := .long) (by decide) (by decide)))).other W25 (Or.inr (slot_ne (Or.inl (hw _ (List.mem_of_getElem? (i := 17) rfl))) (Or.inl (hw _ (List.mem_of_getElem? (i := 32) rfl))) (by decide) (t := .long) (t' := .long) (by decide) (by decide)))).other W28 (Or.inr (slot_ne (Or.inl (hw _ (List.mem_of_getElem? (i := 17) rfl))) (Or.inl (hw _ (List.mem_of_getElem? (i := 34) rfl))) (by decide) (t := .long) (t' := .long) (by decide) (by decide)))).other W31 (Or.inr (slot_ne (Or.inl (hw _ (List.mem_of_getElem? (i := 17) rfl))) (Or.inl (hw _ (List.mem_of_getElem? (i := 36) rfl))) (by decide) (t := .long) (t' := .short) (by decide) (by decide)))).other W34 (Or.inr (slot_ne (Or.inl (hw _ (List.mem_of_getElem? (i := 17) rfl))) (Or.inl (hw _ (List.mem_of_getElem? (i := 38) rfl))) (by decide) (t := .long) (t' := .int) (by decide) (by decide)))).other W37 (Or.inr (slot_ne (Or.inl (hw _ (List.mem_of_getElem? (i := 17) rfl))) (Or.inl (hw _ (List.mem_of_getElem? (i := 40) rfl))) (by decide) (t := .long) (t' := .int) (by decide) (by decide)))).other W40 (Or.inr (slot_ne (Or.inl (hw _ (List.mem_of_getElem? (i := 17) rfl))) (Or.inl (hw _ (List.mem_of_getElem? (i := 42) rfl))) (by decide) (t := .long) (t' := (.object "com/example/seqlint/seqlint/kafka/Batch$Marker")) (by decide) (by decide))))
  have fc43 : Fld Z h40 a1 "com/example/seqlint/seqlint/kafka/Batch" "leaderEpoch" "I" (.int p4) := (((((((((((Fw7.other W10 (Or.inr (slot_ne (Or.inl (hw _ (List.mem_of_getElem? (i := 19) rfl))) (Or.inl (hw _ (List.mem_of_getElem? (i := 21) rfl))) (by decide) (t := .int) (t' := .long) (by decide) (by decide)))).other W13 (Or.inr (slot_ne (Or.inl (hw _ (List.mem_of_getElem? (i := 19) rfl))) (Or.inl (hw _ (List.mem_of_getElem? (i := 24) rfl))) (by decide) (t := .int) (t' := .long) (by decide) (by decide)))).other W16 (Or.inr (slot_ne (Or.inl (hw _ (List.mem_of_getElem? (i := 19) rfl))) (Or.inl (hw _ (List.mem_of_getElem? (i := 26) rfl))) (by decide) (t := .int) (t' := .short) (by decide) (by decide)))).other W19 (Or.inr (slot_ne (Or.inl (hw _ (List.mem_of_getElem? (i := 19) rfl))) (Or.inl (hw _ (List.mem_of_getElem? (i := 28) rfl))) (by decide) (t := .int) (t' := .int) (by decide) (by decide)))).other W22 (Or.inr (slot_ne (Or.inl (hw _ (List.mem_of_getElem? (i := 19) rfl))) (Or.inl (hw _ (List.mem_of_getElem? (i := 30) rfl))) (by decide) (t := .int) (t' := .long) (by decide) (by decide)))).other W25 (Or.inr (slot_ne (Or.inl (hw _ (List.mem_of_getElem? (i := 19) rfl))) (Or.inl (hw _ (List.mem_of_getElem? (i := 32) rfl))) (by decide) (t := .int) (t' := .long) (by decide) (by decide)))).other W28 (Or.inr (slot_ne (Or.inl (hw _ (List.mem_of_getElem? (i := 19) rfl))) (Or.inl (hw _ (List.mem_of_getElem? (i := 34) rfl))) (by decide) (t := .int) (t' := .long) (by decide) (by decide)))).other W31 (Or.inr (slot_ne (Or.inl (hw _ (List.mem_of_getElem? (i := 19) rfl))) (Or.inl (hw _ (List.mem_of_getElem? (i := 36) rfl))) (by decide) (t := .int) (t' := .short) (by decide) (by decide)))).other W34 (Or.inr (slot_ne (Or.inl (hw _ (List.mem_of_getElem? (i := 19) rfl))) (Or.inl (hw _ (List.mem_of_getElem? (i := 38) rfl))) (by decide) (t := .int) (t' := .int) (by decide) (by decide)))).other W37 (Or.inr (slot_ne (Or.inl (hw _ (List.mem_of_getElem? (i := 19) rfl))) (Or.inl (hw _ (List.mem_of_getElem? (i := 40) rfl))) (by decide) (t := .int) (t' := .int) (by decide) (by decide)))).other W40 (Or.inr (slot_ne (Or.inl (hw _ (List.mem_of_getElem? (i := 19) rfl))) (Or.inl (hw _ (List.mem_of_getElem? (i := 42) rfl))) (by decide) (t := .int) (t' := (.object "com/example/seqlint/seqlint/kafka/Batch$Marker")) (by decide) (by decide))))
  have fc44 : Fld Z h40 a1 "com/example/seqlint/seqlint/kafka/Batch" "storedCrc" "J" (.long q5) := ((((((((((Fw10.other W13 (Or.inr (slot_ne (Or.inl (hw _ (List.mem_of_getElem? (i := 21) rfl))) (Or.inl (hw _ (List.mem_of_getElem? (i := 24) rfl))) (by decide) (t := .long) (t' := .long) (by decide) (by decide)))).other W16 (Or.inr (slot_ne (Or.inl (hw _ (List.mem_of_getElem? (i := 21) rfl))) (Or.inl (hw _ (List.mem_of_getElem? (i := 26) rfl))) (by decide) (t := .long) (t' := .short) (by decide) (by decide)))).other W19 (Or.inr (slot_ne (Or.inl (hw _ (List.mem_of_getElem? (i := 21) rfl))) (Or.inl (hw _ (List.mem_of_getElem? (i := 28) rfl))) (by decide) (t := .long) (t' := .int) (by decide) (by decide)))).other W22 (Or.inr (slot_ne (Or.inl (hw _ (List.mem_of_getElem? (i := 21) rfl))) (Or.inl (hw _ (List.mem_of_getElem? (i := 30) rfl))) (by decide) (t := .long) (t' := .long) (by decide) (by decide)))).other W25 (Or.inr (slot_ne (Or.inl (hw _ (List.mem_of_getElem? (i := 21) rfl))) (Or.inl (hw _ (List.mem_of_getElem? (i := 32) rfl))) (by decide) (t := .long) (t' := .long) (by decide) (by decide)))).other W28 (Or.inr (slot_ne (Or.inl (hw _ (List.mem_of_getElem? (i := 21) rfl))) (Or.inl (hw _ (List.mem_of_getElem? (i := 34) rfl))) (by decide) (t := .long) (t' := .long) (by decide) (by decide)))).other W31 (Or.inr (slot_ne (Or.inl (hw _ (List.mem_of_getElem? (i := 21) rfl))) (Or.inl (hw _ (List.mem_of_getElem? (i := 36) rfl))) (by decide) (t := .long) (t' := .short) (by decide) (by decide)))).other W34 (Or.inr (slot_ne (Or.inl (hw _ (List.mem_of_getElem? (i := 21) rfl))) (Or.inl (hw _ (List.mem_of_getElem? (i := 38) rfl))) (by decide) (t := .long) (t' := .int) (by decide) (by decide)))).other W37 (Or.inr (slot_ne (Or.inl (hw _ (List.mem_of_getElem? (i := 21) rfl))) (Or.inl (hw _ (List.mem_of_getElem? (i := 40) rfl))) (by decide) (t := .long) (t' := .int) (by decide) (by decide)))).other W40 (Or.inr (slot_ne (Or.inl (hw _ (List.mem_of_getElem? (i := 21) rfl))) (Or.inl (hw _ (List.mem_of_getElem? (i := 42) rfl))) (by decide) (t := .long) (t' := (.object "com/example/seqlint/seqlint/kafka/Batch$Marker")) (by decide) (by decide))))
  have fc45 : Fld Z h40 a1 "com/example/seqlint/seqlint/kafka/Batch" "computedCrc" "J" (.long (-1 : Int64)) := (((((((((Fw13.other W16 (Or.inr (slot_ne (Or.inl (hw _ (List.mem_of_getElem? (i := 24) rfl))) (Or.inl (hw _ (List.mem_of_getElem? (i := 26) rfl))) (by decide) (t := .long) (t' := .short) (by decide) (by decide)))).other W19 (Or.inr (slot_ne (Or.inl (hw _ (List.mem_of_getElem? (i := 24) rfl))) (Or.inl (hw _ (List.mem_of_getElem? (i := 28) rfl))) (by decide) (t := .long) (t' := .int) (by decide) (by decide)))).other W22 (Or.inr (slot_ne (Or.inl (hw _ (List.mem_of_getElem? (i := 24) rfl))) (Or.inl (hw _ (List.mem_of_getElem? (i := 30) rfl))) (by decide) (t := .long) (t' := .long) (by decide) (by decide)))).other W25 (Or.inr (slot_ne (Or.inl (hw _ (List.mem_of_getElem? (i := 24) rfl))) (Or.inl (hw _ (List.mem_of_getElem? (i := 32) rfl))) (by decide) (t := .long) (t' := .long) (by decide) (by decide)))).other W28 (Or.inr (slot_ne (Or.inl (hw _ (List.mem_of_getElem? (i := 24) rfl))) (Or.inl (hw _ (List.mem_of_getElem? (i := 34) rfl))) (by decide) (t := .long) (t' := .long) (by decide) (by decide)))).other W31 (Or.inr (slot_ne (Or.inl (hw _ (List.mem_of_getElem? (i := 24) rfl))) (Or.inl (hw _ (List.mem_of_getElem? (i := 36) rfl))) (by decide) (t := .long) (t' := .short) (by decide) (by decide)))).other W34 (Or.inr (slot_ne (Or.inl (hw _ (List.mem_of_getElem? (i := 24) rfl))) (Or.inl (hw _ (List.mem_of_getElem? (i := 38) rfl))) (by decide) (t := .long) (t' := .int) (by decide) (by decide)))).other W37 (Or.inr (slot_ne (Or.inl (hw _ (List.mem_of_getElem? (i := 24) rfl))) (Or.inl (hw _ (List.mem_of_getElem? (i := 40) rfl))) (by decide) (t := .long) (t' := .int) (by decide) (by decide)))).other W40 (Or.inr (slot_ne (Or.inl (hw _ (List.mem_of_getElem? (i := 24) rfl))) (Or.inl (hw _ (List.mem_of_getElem? (i := 42) rfl))) (by decide) (t := .long) (t' := (.object "com/example/seqlint/seqlint/kafka/Batch$Marker")) (by decide) (by decide))))
  have fc46 : Fld Z h40 a1 "com/example/seqlint/seqlint/kafka/Batch" "attributes" "S" (.int (p6.toInt16.toInt32)) := ((((((((Fw16.other W19 (Or.inr (slot_ne (Or.inl (hw _ (List.mem_of_getElem? (i := 26) rfl))) (Or.inl (hw _ (List.mem_of_getElem? (i := 28) rfl))) (by decide) (t := .short) (t' := .int) (by decide) (by decide)))).other W22 (Or.inr (slot_ne (Or.inl (hw _ (List.mem_of_getElem? (i := 26) rfl))) (Or.inl (hw _ (List.mem_of_getElem? (i := 30) rfl))) (by decide) (t := .short) (t' := .long) (by decide) (by decide)))).other W25 (Or.inr (slot_ne (Or.inl (hw _ (List.mem_of_getElem? (i := 26) rfl))) (Or.inl (hw _ (List.mem_of_getElem? (i := 32) rfl))) (by decide) (t := .short) (t' := .long) (by decide) (by decide)))).other W28 (Or.inr (slot_ne (Or.inl (hw _ (List.mem_of_getElem? (i := 26) rfl))) (Or.inl (hw _ (List.mem_of_getElem? (i := 34) rfl))) (by decide) (t := .short) (t' := .long) (by decide) (by decide)))).other W31 (Or.inr (slot_ne (Or.inl (hw _ (List.mem_of_getElem? (i := 26) rfl))) (Or.inl (hw _ (List.mem_of_getElem? (i := 36) rfl))) (by decide) (t := .short) (t' := .short) (by decide) (by decide)))).other W34 (Or.inr (slot_ne (Or.inl (hw _ (List.mem_of_getElem? (i := 26) rfl))) (Or.inl (hw _ (List.mem_of_getElem? (i := 38) rfl))) (by decide) (t := .short) (t' := .int) (by decide) (by decide)))).other W37 (Or.inr (slot_ne (Or.inl (hw _ (List.mem_of_getElem? (i := 26) rfl))) (Or.inl (hw _ (List.mem_of_getElem? (i := 40) rfl))) (by decide) (t := .short) (t' := .int) (by decide) (by decide)))).other W40 (Or.inr (slot_ne (Or.inl (hw _ (List.mem_of_getElem? (i := 26) rfl))) (Or.inl (hw _ (List.mem_of_getElem? (i := 42) rfl))) (by decide) (t := .short) (t' := (.object "com/example/seqlint/seqlint/kafka/Batch$Marker")) (by decide) (by decide))))
  have fc47 : Fld Z h40 a1 "com/example/seqlint/seqlint/kafka/Batch" "lastOffsetDelta" "I" (.int p7) := (((((((Fw19.other W22 (Or.inr (slot_ne (Or.inl (hw _ (List.mem_of_getElem? (i := 28) rfl))) (Or.inl (hw _ (List.mem_of_getElem? (i := 30) rfl))) (by decide) (t := .int) (t' := .long) (by decide) (by decide)))).other W25 (Or.inr (slot_ne (Or.inl (hw _ (List.mem_of_getElem? (i := 28) rfl))) (Or.inl (hw _ (List.mem_of_getElem? (i := 32) rfl))) (by decide) (t := .int) (t' := .long) (by decide) (by decide)))).other W28 (Or.inr (slot_ne (Or.inl (hw _ (List.mem_of_getElem? (i := 28) rfl))) (Or.inl (hw _ (List.mem_of_getElem? (i := 34) rfl))) (by decide) (t := .int) (t' := .long) (by decide) (by decide)))).other W31 (Or.inr (slot_ne (Or.inl (hw _ (List.mem_of_getElem? (i := 28) rfl))) (Or.inl (hw _ (List.mem_of_getElem? (i := 36) rfl))) (by decide) (t := .int) (t' := .short) (by decide) (by decide)))).other W34 (Or.inr (slot_ne (Or.inl (hw _ (List.mem_of_getElem? (i := 28) rfl))) (Or.inl (hw _ (List.mem_of_getElem? (i := 38) rfl))) (by decide) (t := .int) (t' := .int) (by decide) (by decide)))).other W37 (Or.inr (slot_ne (Or.inl (hw _ (List.mem_of_getElem? (i := 28) rfl))) (Or.inl (hw _ (List.mem_of_getElem? (i := 40) rfl))) (by decide) (t := .int) (t' := .int) (by decide) (by decide)))).other W40 (Or.inr (slot_ne (Or.inl (hw _ (List.mem_of_getElem? (i := 28) rfl))) (Or.inl (hw _ (List.mem_of_getElem? (i := 42) rfl))) (by decide) (t := .int) (t' := (.object "com/example/seqlint/seqlint/kafka/Batch$Marker")) (by decide) (by decide))))
  have fc48 : Fld Z h40 a1 "com/example/seqlint/seqlint/kafka/Batch" "firstTimestamp" "J" (.long q8) := ((((((Fw22.other W25 (Or.inr (slot_ne (Or.inl (hw _ (List.mem_of_getElem? (i := 30) rfl))) (Or.inl (hw _ (List.mem_of_getElem? (i := 32) rfl))) (by decide) (t := .long) (t' := .long) (by decide) (by decide)))).other W28 (Or.inr (slot_ne (Or.inl (hw _ (List.mem_of_getElem? (i := 30) rfl))) (Or.inl (hw _ (List.mem_of_getElem? (i := 34) rfl))) (by decide) (t := .long) (t' := .long) (by decide) (by decide)))).other W31 (Or.inr (slot_ne (Or.inl (hw _ (List.mem_of_getElem? (i := 30) rfl))) (Or.inl (hw _ (List.mem_of_getElem? (i := 36) rfl))) (by decide) (t := .long) (t' := .short) (by decide) (by decide)))).other W34 (Or.inr (slot_ne (Or.inl (hw _ (List.mem_of_getElem? (i := 30) rfl))) (Or.inl (hw _ (List.mem_of_getElem? (i := 38) rfl))) (by decide) (t := .long) (t' := .int) (by decide) (by decide)))).other W37 (Or.inr (slot_ne (Or.inl (hw _ (List.mem_of_getElem? (i := 30) rfl))) (Or.inl (hw _ (List.mem_of_getElem? (i := 40) rfl))) (by decide) (t := .long) (t' := .int) (by decide) (by decide)))).other W40 (Or.inr (slot_ne (Or.inl (hw _ (List.mem_of_getElem? (i := 30) rfl))) (Or.inl (hw _ (List.mem_of_getElem? (i := 42) rfl))) (by decide) (t := .long) (t' := (.object "com/example/seqlint/seqlint/kafka/Batch$Marker")) (by decide) (by decide))))
  have fc49 : Fld Z h40 a1 "com/example/seqlint/seqlint/kafka/Batch" "maxTimestamp" "J" (.long q9) := (((((Fw25.other W28 (Or.inr (slot_ne (Or.inl (hw _ (List.mem_of_getElem? (i := 32) rfl))) (Or.inl (hw _ (List.mem_of_getElem? (i := 34) rfl))) (by decide) (t := .long) (t' := .long) (by decide) (by decide)))).other W31 (Or.inr (slot_ne (Or.inl (hw _ (List.mem_of_getElem? (i := 32) rfl))) (Or.inl (hw _ (List.mem_of_getElem? (i := 36) rfl))) (by decide) (t := .long) (t' := .short) (by decide) (by decide)))).other W34 (Or.inr (slot_ne (Or.inl (hw _ (List.mem_of_getElem? (i := 32) rfl))) (Or.inl (hw _ (List.mem_of_getElem? (i := 38) rfl))) (by decide) (t := .long) (t' := .int) (by decide) (by decide)))).other W37 (Or.inr (slot_ne (Or.inl (hw _ (List.mem_of_getElem? (i := 32) rfl))) (Or.inl (hw _ (List.mem_of_getElem? (i := 40) rfl))) (by decide) (t := .long) (t' := .int) (by decide) (by decide)))).other W40 (Or.inr (slot_ne (Or.inl (hw _ (List.mem_of_getElem? (i := 32) rfl))) (Or.inl (hw _ (List.mem_of_getElem? (i := 42) rfl))) (by decide) (t := .long) (t' := (.object "com/example/seqlint/seqlint/kafka/Batch$Marker")) (by decide) (by decide))))
  have fc50 : Fld Z h40 a1 "com/example/seqlint/seqlint/kafka/Batch" "producerId" "J" (.long q10) := ((((Fw28.other W31 (Or.inr (slot_ne (Or.inl (hw _ (List.mem_of_getElem? (i := 34) rfl))) (Or.inl (hw _ (List.mem_of_getElem? (i := 36) rfl))) (by decide) (t := .long) (t' := .short) (by decide) (by decide)))).other W34 (Or.inr (slot_ne (Or.inl (hw _ (List.mem_of_getElem? (i := 34) rfl))) (Or.inl (hw _ (List.mem_of_getElem? (i := 38) rfl))) (by decide) (t := .long) (t' := .int) (by decide) (by decide)))).other W37 (Or.inr (slot_ne (Or.inl (hw _ (List.mem_of_getElem? (i := 34) rfl))) (Or.inl (hw _ (List.mem_of_getElem? (i := 40) rfl))) (by decide) (t := .long) (t' := .int) (by decide) (by decide)))).other W40 (Or.inr (slot_ne (Or.inl (hw _ (List.mem_of_getElem? (i := 34) rfl))) (Or.inl (hw _ (List.mem_of_getElem? (i := 42) rfl))) (by decide) (t := .long) (t' := (.object "com/example/seqlint/seqlint/kafka/Batch$Marker")) (by decide) (by decide))))
  have fc51 : Fld Z h40 a1 "com/example/seqlint/seqlint/kafka/Batch" "producerEpoch" "S" (.int (p11.toInt16.toInt32)) := (((Fw31.other W34 (Or.inr (slot_ne (Or.inl (hw _ (List.mem_of_getElem? (i := 36) rfl))) (Or.inl (hw _ (List.mem_of_getElem? (i := 38) rfl))) (by decide) (t := .short) (t' := .int) (by decide) (by decide)))).other W37 (Or.inr (slot_ne (Or.inl (hw _ (List.mem_of_getElem? (i := 36) rfl))) (Or.inl (hw _ (List.mem_of_getElem? (i := 40) rfl))) (by decide) (t := .short) (t' := .int) (by decide) (by decide)))).other W40 (Or.inr (slot_ne (Or.inl (hw _ (List.mem_of_getElem? (i := 36) rfl))) (Or.inl (hw _ (List.mem_of_getElem? (i := 42) rfl))) (by decide) (t := .short) (t' := (.object "com/example/seqlint/seqlint/kafka/Batch$Marker")) (by decide) (by decide))))
  have fc52 : Fld Z h40 a1 "com/example/seqlint/seqlint/kafka/Batch" "baseSequence" "I" (.int p12) := ((Fw34.other W37 (Or.inr (slot_ne (Or.inl (hw _ (List.mem_of_getElem? (i := 38) rfl))) (Or.inl (hw _ (List.mem_of_getElem? (i := 40) rfl))) (by decide) (t := .int) (t' := .int) (by decide) (by decide)))).other W40 (Or.inr (slot_ne (Or.inl (hw _ (List.mem_of_getElem? (i := 38) rfl))) (Or.inl (hw _ (List.mem_of_getElem? (i := 42) rfl))) (by decide) (t := .int) (t' := (.object "com/example/seqlint/seqlint/kafka/Batch$Marker")) (by decide) (by decide))))
  have fc53 : Fld Z h40 a1 "com/example/seqlint/seqlint/kafka/Batch" "recordCount" "I" (.int p13) := (Fw37.other W40 (Or.inr (slot_ne (Or.inl (hw _ (List.mem_of_getElem? (i := 40) rfl))) (Or.inl (hw _ (List.mem_of_getElem? (i := 42) rfl))) (by decide) (t := .int) (t' := (.object "com/example/seqlint/seqlint/kafka/Batch$Marker")) (by decide) (by decide))))
  refine Goes.ret X40 none (fun _ => rfl) (BodyLoose.notSynchronized Bd) (by decide) (by decide) (fun fs hr => X40.returnOut hx Bd.returns (hb hby d3_82) hr) ?_
  show Q_rm3 Z a1 q2 q3 p4 q5 p6 p7 q8 q9 q10 p11 p12 p13 u_position u_baseOffset u_leaderEpoch u_storedCrc u_computedCrc u_attributes u_lastOffsetDelta u_firstTimestamp u_maxTimestamp u_producerId u_producerEpoch u_baseSequence u_recordCount u_marker h0 n0 _ T40.heap _
  rw [e40]
  exact ⟨rfl, N40, K40, fc41, fc42, fc43, fc44, fc45, fc46, fc47, fc48, fc49, fc50, fc51, fc52, fc53, Fw40⟩
theorem d6_0 : decode prog_49_method_3_code 0 = .ok (.aload_n 0, 1) := by decide +kernel
theorem d6_1 : decode prog_49_method_3_code 1 = .ok (.lload_n 1, 1) := by decide +kernel
theorem d6_2 : decode prog_49_method_3_code 2 = .ok (.putfield 25, 3) := by decide +kernel
theorem d6_5 : decode prog_49_method_3_code 5 = .ok (.aload_n 0, 1) := by decide +kernel
theorem d6_6 : decode prog_49_method_3_code 6 = .ok (.aload_n 3, 1) := by decide +kernel
theorem d6_7 : decode prog_49_method_3_code 7 = .ok (.putfield 53, 3) := by decide +kernel
theorem d6_10 : decode prog_49_method_3_code 10 = .ok (.return_, 1) := by decide +kernel
def Q_rm6 (Z : State) (a1 : Addr) (q2 : Int64) (u1 : Value) (u2 : Value) (f1 : Int64) (f2 : Int32) (f3 : Int32) (h0 : Heap) (n0 : Nat) (v : Option Value) (h : Heap) (L : List Loc) : Prop := v = none ∧ Fr n0 L ∧ Keep h0 h [a1] ∧ (Fld Z h a1 "com/example/seqlint/seqlint/kafka/Batch" "producerId" "J" (.long f1)) ∧ (Fld Z h a1 "com/example/seqlint/seqlint/kafka/Batch" "baseSequence" "I" (.int f2)) ∧ (Fld Z h a1 "com/example/seqlint/seqlint/kafka/Batch" "attributes" "S" (.int f3))
theorem ef_rm6 (m : MethodId) (a1 : Addr) (q2 : Int64) : entryFrame m #[(.ref a1), (.long q2), .null] 4 = mkF m 0 #[.val (.ref a1), .val (.long q2), .second, .val .null] [] := by first | (simp [entryFrame, mkF, argsToLocals, Value.category]; done) | rfl
set_option maxRecDepth 65536 in
set_option maxHeartbeats 40000000 in
theorem rm6 (l : Launch) (Z : State) (a0 : Array Value) (hw : ∀ d ∈ tables_1, d.before a0 Z = true) (ws : List Jvm.Cond) (a1 : Addr) (q2 : Int64) (u1 : Value) (u2 : Value) (f1 : Int64) (f2 : Int32) (f3 : Int32) (h0 : Heap) (n0 : Nat) (Z0 : n0 ≤ h0.size) (pf_E_a1 : Exa Z h0 a1 "com/example/seqlint/seqlint/kafka/Batch") (pf_G_a1 : n0 ≤ a1) (pf_F_a1_com_example_seqlint_seqlint_kafka_Batch_computedCrc : Fld Z h0 a1 "com/example/seqlint/seqlint/kafka/Batch" "computedCrc" "J" u1) (pf_F_a1_com_example_seqlint_seqlint_kafka_Batch_marker : Fld Z h0 a1 "com/example/seqlint/seqlint/kafka/Batch" "marker" "Lcom/example/seqlint/seqlint/kafka/Batch$Marker;" u2) (pf_F_a1_com_example_seqlint_seqlint_kafka_Batch_producerId : Fld Z h0 a1 "com/example/seqlint/seqlint/kafka/Batch" "producerId" "J" (.long f1)) (pf_F_a1_com_example_seqlint_seqlint_kafka_Batch_baseSequence : Fld Z h0 a1 "com/example/seqlint/seqlint/kafka/Batch" "baseSequence" "I" (.int f2)) (pf_F_a1_com_example_seqlint_seqlint_kafka_Batch_attributes : Fld Z h0 a1 "com/example/seqlint/seqlint/kafka/Batch" "attributes" "S" (.int f3)) :
    MetFree l (⟨"com/example/seqlint/seqlint/kafka/Batch", "setRecordsRead", "(JLcom/example/seqlint/seqlint/kafka/Batch$Marker;)V"⟩ : MethodName) (head1 (Jvm.Cond.code (⟨"com/example/seqlint/seqlint/kafka/Batch", "setRecordsRead", "(JLcom/example/seqlint/seqlint/kafka/Batch$Marker;)V"⟩ : MethodName) prog_49_method_3_code 4 none :: ws) ({ frames := 0, cells := 0, slots := 0, locals := 0 } : Room)) (fun a U => a = #[(.ref a1), (.long q2), .null] ∧ Z.Warmed39 U.vm ∧ U.heap = h0) (fun _ _ _ _ _ => True) (fun _ U o U' => ∃ v L, o = .returned v ∧ Q_rm6 Z a1 q2 u1 u2 f1 f2 f3 h0 n0 v U'.heap L ∧ FrameEnd U o U' L ({ frames := 0, cells := 0, slots := 0, locals := 0 } : Room).cells ({ frames := 0, cells := 0, slots := 0, locals := 0 } : Room).slots) := by
  refine MetFree.of_bodySF (plainFor_of_name pn_0) hisR ?_
  intro p e s m args below meth c s₁ Bd hml0 hP hK
  obtain ⟨rfl, hZ, hh⟩ := hP
  have hx := Bd.exec
  have hby := Bd.bytes
  have hml : c.maxLocals = 4 := hml0
  have hown : s.vm.findClass "com/example/seqlint/seqlint/kafka/Batch" = some m.cls := findClass_of_methodNamed Bd.named
  have hnm := (name_of_methodNamed Bd.named Bd.method).1
  have X0 : Stand p l e ({ frames := 0, cells := 0, slots := 0, locals := 0 } : Room) s m #[(.ref a1), (.long q2), .null] below meth c s₁ [] 0 0 := Stand.of_body Bd
  have e0 : s₁.heap = h0 := by rw [← hh, Bd.state]; rfl
  have N0 := Fr.nil n0
  have K0 := Keep.refl h0 [a1]
  show Goes p e below s (Q_rm6 Z a1 q2 u1 u2 f1 f2 f3 h0 n0) ({ frames := 0, cells := 0, slots := 0, locals := 0 } : Room).cells ({ frames := 0, cells := 0, slots := 0, locals := 0 } : Room).slots (s₁.setTop (entryFrame m #[(.ref a1), (.long q2), .null] 4))
  refine Goes.pre (fun t kt => castTop (ef_rm6 m a1 q2) kt) ?_
  show Goes p e below s _ _ _ (s₁.setTop (mkF m 0 #[.val (.ref a1), .val (.long q2), .second, .val .null] []))
  refine Goes.pre (fun t kt => XS.aloadN X0.here hx rfl (hb hby d6_0) rfl rfl kt) ?_
  show Goes p e below s _ _ _ (s₁.setTop (mkF m 1 #[.val (.ref a1), .val (.long q2), .second, .val .null] [(.ref a1)]))
  refine Goes.pre (fun t kt => XS.lloadN X0.here hx rfl (hb hby d6_1) rfl kt) ?_
  show Goes p e below s _ _ _ (s₁.setTop (mkF m 2 #[.val (.ref a1), .val (.long q2), .second, .val .null] [(.long q2), (.ref a1)]))
  obtain ⟨T1, h1, X1, e1, W1, st1⟩ := putF X0 hx hZ hown (host := "") (Or.inl (hw _ (List.mem_of_getElem? (i := 23) rfl))) Via.refl e0 pf_F_a1_com_example_seqlint_seqlint_kafka_Batch_computedCrc pf_E_a1 (Or.inl (hw _ (List.mem_of_getElem? (i := 24) rfl))) (hw _ (List.mem_of_getElem? (i := 1) rfl)) (ty := .long) (by decide) rfl rfl (g := (mkF m 2 #[.val (.ref a1), .val (.long q2), .second, .val .null] [(.long q2), (.ref a1)])) rfl rfl (hb hby d6_2)
  refine Goes.pre st1 ?_
  have Z1 : n0 ≤ h1.size := Nat.le_trans Z0 (Keep.of_wr W1).1
  have N1 := Fr.snoc X1 N0 pf_G_a1
  have K1 := K0.wr W1 (Or.inl (List.mem_of_getElem? (i := 0) rfl))
  have Fw1 : Fld Z h1 a1 "com/example/seqlint/seqlint/kafka/Batch" "computedCrc" "J" (.long q2) := pf_F_a1_com_example_seqlint_seqlint_kafka_Batch_computedCrc.same W1
  show Goes p e below s _ _ _ (T1.setTop (mkF m 5 #[.val (.ref a1), .val (.long q2), .second, .val .null] []))
  refine Goes.pre (fun t kt => XS.aloadN X1.here hx rfl (hb hby d6_5) rfl rfl kt) ?_
  show Goes p e below s _ _ _ (T1.setTop (mkF m 6 #[.val (.ref a1), .val (.long q2), .second, .val .null] [(.ref a1)]))
  refine Goes.pre (fun t kt => XS.aloadN X1.here hx rfl (hb hby d6_6) rfl rfl kt) ?_
  show Goes p e below s _ _ _ (T1.setTop (mkF m 7 #[.val (.ref a1), .val (.long q2), .second, .val .null] [.null, (.ref a1)]))
  have fc2 : Fld Z h1 a1 "com/example/seqlint/seqlint/kafka/Batch" "marker" "Lcom/example/seqlint/seqlint/kafka/Batch$Marker;" u2 := (pf_F_a1_com_example_seqlint_seqlint_kafka_Batch_marker.other W1 (Or.inr (slot_ne (Or.inl (hw _ (List.mem_of_getElem? (i := 42) rfl))) (Or.inl (hw _ (List.mem_of_getElem? (i := 24) rfl))) (by decide) (t := (.object "com/example/seqlint/seqlint/kafka/Batch$Marker")) (t' := .long) (by decide) (by decide))))
  have fc3 : Exa Z h1 a1 "com/example/seqlint/seqlint/kafka/Batch" := (pf_E_a1.wr W1)
  obtain ⟨T4, h4, X4, e4, W4, st4⟩ := putF X1 hx hZ hown (host := "") (Or.inl (hw _ (List.mem_of_getElem? (i := 41) rfl))) Via.refl e1 fc2 fc3 (Or.inl (hw _ (List.mem_of_getElem? (i := 42) rfl))) (hw _ (List.mem_of_getElem? (i := 1) rfl)) (ty := (.object "com/example/seqlint/seqlint/kafka/Batch$Marker")) (by decide) rfl rfl (g := (mkF m 7 #[.val (.ref a1), .val (.long q2), .second, .val .null] [.null, (.ref a1)])) rfl rfl (hb hby d6_7)
  refine Goes.pre st4 ?_
  have Z4 : n0 ≤ h4.size := Nat.le_trans Z1 (Keep.of_wr W4).1
  have N4 := Fr.snoc X4 N1 pf_G_a1
  have K4 := K1.wr W4 (Or.inl (List.mem_of_getElem? (i := 0) rfl))
  have Fw4 : Fld Z h4 a1 "com/example/seqlint/seqlint/kafka/Batch" "marker" "Lcom/example/seqlint/seqlint/kafka/Batch$Marker;" .null := fc2.same W4
  show Goes p e below s _ _ _ (T4.setTop (mkF m 10 #[.val (.ref a1), .val (.long q2), .second, .val .null] []))
  have fc5 : Fld Z h4 a1 "com/example/seqlint/seqlint/kafka/Batch" "producerId" "J" (.long f1) := ((pf_F_a1_com_example_seqlint_seqlint_kafka_Batch_producerId.other W1 (Or.inr (slot_ne (Or.inl (hw _ (List.mem_of_getElem? (i := 34) rfl))) (Or.inl (hw _ (List.mem_of_getElem? (i := 24) rfl))) (by decide) (t := .long) (t' := .long) (by decide) (by decide)))).other W4 (Or.inr (slot_ne (Or.inl (hw _ (List.mem_of_getElem? (i := 34) rfl))) (Or.inl (hw _ (List.mem_of_getElem? (i := 42) rfl))) (by decide) (t := .long) (t' := (.object "com/example/seqlint/seqlint/kafka/Batch$Marker")) (by decide) (by decide))))
  have fc6 : Fld Z h4 a1 "com/example/seqlint/seqlint/kafka/Batch" "baseSequence" "I" (.int f2) := ((pf_F_a1_com_example_seqlint_seqlint_kafka_Batch_baseSequence.other W1 (Or.inr (slot_ne (Or.inl (hw _ (List.mem_of_getElem? (i := 38) rfl))) (Or.inl (hw _ (List.mem_of_getElem? (i := 24) rfl))) (by decide) (t := .int) (t' := .long) (by decide) (by decide)))).other W4 (Or.inr (slot_ne (Or.inl (hw _ (List.mem_of_getElem? (i := 38) rfl))) (Or.inl (hw _ (List.mem_of_getElem? (i := 42) rfl))) (by decide) (t := .int) (t' := (.object "com/example/seqlint/seqlint/kafka/Batch$Marker")) (by decide) (by decide))))
  have fc7 : Fld Z h4 a1 "com/example/seqlint/seqlint/kafka/Batch" "attributes" "S" (.int f3) := ((pf_F_a1_com_example_seqlint_seqlint_kafka_Batch_attributes.other W1 (Or.inr (slot_ne (Or.inl (hw _ (List.mem_of_getElem? (i := 26) rfl))) (Or.inl (hw _ (List.mem_of_getElem? (i := 24) rfl))) (by decide) (t := .short) (t' := .long) (by decide) (by decide)))).other W4 (Or.inr (slot_ne (Or.inl (hw _ (List.mem_of_getElem? (i := 26) rfl))) (Or.inl (hw _ (List.mem_of_getElem? (i := 42) rfl))) (by decide) (t := .short) (t' := (.object "com/example/seqlint/seqlint/kafka/Batch$Marker")) (by decide) (by decide))))
  refine Goes.ret X4 none (fun _ => rfl) (BodyLoose.notSynchronized Bd) (by decide) (by decide) (fun fs hr => X4.returnOut hx Bd.returns (hb hby d6_10) hr) ?_
  show Q_rm6 Z a1 q2 u1 u2 f1 f2 f3 h0 n0 _ T4.heap _
  rw [e4]
  exact ⟨rfl, N4, K4, fc5, fc6, fc7⟩
theorem d4_0 : decode method_3_code 0 = .ok (.iload_n 3, 1) := by decide +kernel
theorem d4_1 : decode method_3_code 1 = .ok (.iconst 5, 1) := by decide +kernel
theorem d4_2 : decode method_3_code 2 = .ok (.ishr, 1) := by decide +kernel
theorem d4_3 : decode method_3_code 3 = .ok (.iconst 1, 1) := by decide +kernel
theorem d4_4 : decode method_3_code 4 = .ok (.iand, 1) := by decide +kernel
theorem d4_5 : decode method_3_code 5 = .ok (.istore 4, 2) := by decide +kernel
theorem d4_7 : decode method_3_code 7 = .ok (.lload_n 0, 1) := by decide +kernel
theorem d4_8 : decode method_3_code 8 = .ok (.ldc2_w 7, 3) := by decide +kernel
theorem d4_11 : decode method_3_code 11 = .ok (.lcmp, 1) := by decide +kernel
theorem d4_12 : decode method_3_code 12 = .ok (.ifCond .ne 5, 3) := by decide +kernel
theorem d4_15 : decode method_3_code 15 = .ok (.iconst 0, 1) := by decide +kernel
theorem d4_16 : decode method_3_code 16 = .ok (.ireturn, 1) := by decide +kernel
theorem d4_17 : decode method_3_code 17 = .ok (.iload_n 2, 1) := by decide +kernel
theorem d4_18 : decode method_3_code 18 = .ok (.iconst (-1), 1) := by decide +kernel
theorem d4_19 : decode method_3_code 19 = .ok (.if_icmp .ne 5, 3) := by decide +kernel
theorem d4_22 : decode method_3_code 22 = .ok (.iconst 0, 1) := by decide +kernel
theorem d4_23 : decode method_3_code 23 = .ok (.ireturn, 1) := by decide +kernel
theorem d4_24 : decode method_3_code 24 = .ok (.iload 4, 2) := by decide +kernel
theorem d4_26 : decode method_3_code 26 = .ok (.iconst 1, 1) := by decide +kernel
theorem d4_27 : decode method_3_code 27 = .ok (.if_icmp .ne 5, 3) := by decide +kernel
theorem d4_30 : decode method_3_code 30 = .ok (.iconst 0, 1) := by decide +kernel
theorem d4_31 : decode method_3_code 31 = .ok (.ireturn, 1) := by decide +kernel
theorem d4_32 : decode method_3_code 32 = .ok (.iconst 1, 1) := by decide +kernel
theorem d4_33 : decode method_3_code 33 = .ok (.ireturn, 1) := by decide +kernel
theorem pn_1 : plainName "com/example/seqlint/seqlint/kafka/BatchIsSequencedPinLaw" = true := by first | (simp [plainName, overriddenIn]; done) | decide +kernel
def Q_rm4 (Z : State) (q1 : Int64) (p2 : Int32) (p3 : Int32) (h0 : Heap) (n0 : Nat) (v : Option Value) (h : Heap) (L : List Loc) : Prop := v = some (.int (own_ref q1 p2 p3)) ∧ Fr n0 L ∧ h = h0
theorem ef_rm4 (m : MethodId) (q1 : Int64) (p2 : Int32) (p3 : Int32) : entryFrame m #[(.long q1), (.int p2), (.int p3)] 5 = mkF m 0 #[.val (.long q1), .second, .val (.int p2), .val (.int p3), .unset] [] := by first | (simp [entryFrame, mkF, argsToLocals, Value.category]; done) | rfl
set_option maxRecDepth 65536 in
set_option maxHeartbeats 40000000 in
theorem rm4 (l : Launch) (Z : State) (a0 : Array Value) (hw : ∀ d ∈ tables_1, d.before a0 Z = true) (ws : List Jvm.Cond) (q1 : Int64) (p2 : Int32) (p3 : Int32) (h0 : Heap) (n0 : Nat) (Z0 : n0 ≤ h0.size) :
    MetFree l (⟨"com/example/seqlint/seqlint/kafka/BatchIsSequencedPinLaw", "reference", "(JIS)Z"⟩ : MethodName) (head1 (Jvm.Cond.code (⟨"com/example/seqlint/seqlint/kafka/BatchIsSequencedPinLaw", "reference", "(JIS)Z"⟩ : MethodName) method_3_code 5 (some .boolean) :: ws) ({ frames := 0, cells := 0, slots := 0, locals := 0 } : Room)) (fun a U => a = #[(.long q1), (.int p2), (.int p3)] ∧ Z.Warmed39 U.vm ∧ U.heap = h0) (fun _ _ _ _ _ => True) (fun _ U o U' => ∃ v L, o = .returned v ∧ Q_rm4 Z q1 p2 p3 h0 n0 v U'.heap L ∧ FrameEnd U o U' L ({ frames := 0, cells := 0, slots := 0, locals := 0 } : Room).cells ({ frames := 0, cells := 0, slots := 0, locals := 0 } : Room).slots) := by
  refine MetFree.of_bodySF (plainFor_of_name pn_1) hisR ?_
  intro p e s m args below meth c s₁ Bd hml0 hP hK
  obtain ⟨rfl, hZ, hh⟩ := hP
  have hx := Bd.exec
  have hby := Bd.bytes
  have hml : c.maxLocals = 5 := hml0
  have hown : s.vm.findClass "com/example/seqlint/seqlint/kafka/BatchIsSequencedPinLaw" = some m.cls := findClass_of_methodNamed Bd.named
  have hnm := (name_of_methodNamed Bd.named Bd.method).1
  have X0 : Stand p l e ({ frames := 0, cells := 0, slots := 0, locals := 0 } : Room) s m #[(.long q1), (.int p2), (.int p3)] below meth c s₁ [] 0 0 := Stand.of_body Bd
  have e0 : s₁.heap = h0 := by rw [← hh, Bd.state]; rfl
  have N0 := Fr.nil n0
  show Goes p e below s (Q_rm4 Z q1 p2 p3 h0 n0) ({ frames := 0, cells := 0, slots := 0, locals := 0 } : Room).cells ({ frames := 0, cells := 0, slots := 0, locals := 0 } : Room).slots (s₁.setTop (entryFrame m #[(.long q1), (.int p2), (.int p3)] 5))
  refine Goes.pre (fun t kt => castTop (ef_rm4 m q1 p2 p3) kt) ?_
  show Goes p e below s _ _ _ (s₁.setTop (mkF m 0 #[.val (.long q1), .second, .val (.int p2), .val (.int p3), .unset] []))
  refine Goes.pre (fun t kt => XS.iloadN X0.here hx rfl (hb hby d4_0) rfl kt) ?_
  show Goes p e below s _ _ _ (s₁.setTop (mkF m 1 #[.val (.long q1), .second, .val (.int p2), .val (.int p3), .unset] [(.int p3)]))
  refine Goes.pre (fun t kt => XS.iconst X0.here hx rfl (hb hby d4_1) kt) ?_
  show Goes p e below s _ _ _ (s₁.setTop (mkF m 2 #[.val (.long q1), .second, .val (.int p2), .val (.int p3), .unset] [(.int (5 : Int32)), (.int p3)]))
  refine Goes.pre (fun t kt => XS.ishr X0.here hx rfl (hb hby d4_2) rfl kt) ?_
  show Goes p e below s _ _ _ (s₁.setTop (mkF m 3 #[.val (.long q1), .second, .val (.int p2), .val (.int p3), .unset] [(.int (p3 >>> ((5 : Int32) &&& 31)))]))
  refine Goes.pre (fun t kt => XS.iconst X0.here hx rfl (hb hby d4_3) kt) ?_
  show Goes p e below s _ _ _ (s₁.setTop (mkF m 4 #[.val (.long q1), .second, .val (.int p2), .val (.int p3), .unset] [(.int (1 : Int32)), (.int (p3 >>> ((5 : Int32) &&& 31)))]))
  refine Goes.pre (fun t kt => XS.iand X0.here hx rfl (hb hby d4_4) rfl kt) ?_
  show Goes p e below s _ _ _ (s₁.setTop (mkF m 5 #[.val (.long q1), .second, .val (.int p2), .val (.int p3), .unset] [(.int ((p3 >>> ((5 : Int32) &&& 31)) &&& (1 : Int32)))]))
  refine Goes.pre (fun t kt => XS.istore X0.here hx rfl (hb hby d4_5) rfl (l' := #[.val (.long q1), .second, .val (.int p2), .val (.int p3), .val (.int ((p3 >>> ((5 : Int32) &&& 31)) &&& (1 : Int32)))]) rfl kt) ?_
  show Goes p e below s _ _ _ (s₁.setTop (mkF m 7 #[.val (.long q1), .second, .val (.int p2), .val (.int p3), .val (.int ((p3 >>> ((5 : Int32) &&& 31)) &&& (1 : Int32)))] []))
  refine Goes.pre (fun t kt => XS.lloadN X0.here hx rfl (hb hby d4_7) rfl kt) ?_
  show Goes p e below s _ _ _ (s₁.setTop (mkF m 8 #[.val (.long q1), .second, .val (.int p2), .val (.int p3), .val (.int ((p3 >>> ((5 : Int32) &&& 31)) &&& (1 : Int32)))] [(.long q1)]))
  refine Goes.pre (X0.ldc2Long hx hown (mvT hZ (hw _ (List.mem_of_getElem? (i := 47) rfl))) (g := (mkF m 8 #[.val (.long q1), .second, .val (.int p2), .val (.int p3), .val (.int ((p3 >>> ((5 : Int32) &&& 31)) &&& (1 : Int32)))] [(.long q1)])) rfl (hb hby d4_8)) ?_
  show Goes p e below s _ _ _ (s₁.setTop (mkF m 11 #[.val (.long q1), .second, .val (.int p2), .val (.int p3), .val (.int ((p3 >>> ((5 : Int32) &&& 31)) &&& (1 : Int32)))] [(.long (-1 : Int64)), (.long q1)]))
  refine Goes.pre (fun t kt => XS.lcmp X0.here hx rfl (hb hby d4_11) rfl kt) ?_
  show Goes p e below s _ _ _ (s₁.setTop (mkF m 12 #[.val (.long q1), .second, .val (.int p2), .val (.int p3), .val (.int ((p3 >>> ((5 : Int32) &&& 31)) &&& (1 : Int32)))] [(.int (lcmpW q1 (-1 : Int64)))]))
  by_cases hc12 : q1 = (-1 : Int64)
  · refine Goes.pre (fun t kt => XS.ifNo X0.here hx rfl (hb hby d4_12) rfl (Jvm.Free.XT.i0_ne_f ((lw_eq _ _).mpr hc12)) kt) ?_
    show Goes p e below s _ _ _ (s₁.setTop (mkF m 15 #[.val (.long q1), .second, .val (.int p2), .val (.int p3), .val (.int ((p3 >>> ((5 : Int32) &&& 31)) &&& (1 : Int32)))] []))
    refine Goes.pre (fun t kt => XS.iconst X0.here hx rfl (hb hby d4_15) kt) ?_
    show Goes p e below s _ _ _ (s₁.setTop (mkF m 16 #[.val (.long q1), .second, .val (.int p2), .val (.int p3), .val (.int ((p3 >>> ((5 : Int32) &&& 31)) &&& (1 : Int32)))] [(.int (0 : Int32))]))
    refine Goes.ret X0 (some (.int (0 : Int32))) (fun h => by rw [Bd.returns] at h; cases h) (BodyLoose.notSynchronized Bd) (by decide) (by decide) (fun fs hr => retN X0 hx (t := .boolean) Bd.returns (by simp) (hb hby d4_16) hr) ?_
    show Q_rm4 Z q1 p2 p3 h0 n0 _ s₁.heap _
    rw [e0]
    exact ⟨(by simp [own_ref, hc12]), N0, rfl⟩
  · refine Goes.pre (fun t kt => XS.ifYes X0.here hx rfl (pc0 := 12) (pc' := 17) rfl (hb hby d4_12) rfl (Jvm.Free.XT.i0_ne_t ((not_congr (lw_eq _ _)).mpr hc12)) (by decide) (by decide) kt) ?_
    show Goes p e below s _ _ _ (s₁.setTop (mkF m 17 #[.val (.long q1), .second, .val (.int p2), .val (.int p3), .val (.int ((p3 >>> ((5 : Int32) &&& 31)) &&& (1 : Int32)))] []))
    refine Goes.pre (fun t kt => XS.iloadN X0.here hx rfl (hb hby d4_17) rfl kt) ?_
    show Goes p e below s _ _ _ (s₁.setTop (mkF m 18 #[.val (.long q1), .second, .val (.int p2), .val (.int p3), .val (.int ((p3 >>> ((5 : Int32) &&& 31)) &&& (1 : Int32)))] [(.int p2)]))
    refine Goes.pre (fun t kt => XS.iconst X0.here hx rfl (hb hby d4_18) kt) ?_
    show Goes p e below s _ _ _ (s₁.setTop (mkF m 19 #[.val (.long q1), .second, .val (.int p2), .val (.int p3), .val (.int ((p3 >>> ((5 : Int32) &&& 31)) &&& (1 : Int32)))] [(.int (-1 : Int32)), (.int p2)]))
    by_cases hc19 : p2 = (-1 : Int32)
    · refine Goes.pre (fun t kt => XS.icmpNo X0.here hx rfl (hb hby d4_19) rfl (Jvm.Free.XT.ii_ne_f (hc19)) kt) ?_
      show Goes p e below s _ _ _ (s₁.setTop (mkF m 22 #[.val (.long q1), .second, .val (.int p2), .val (.int p3), .val (.int ((p3 >>> ((5 : Int32) &&& 31)) &&& (1 : Int32)))] []))
      refine Goes.pre (fun t kt => XS.iconst X0.here hx rfl (hb hby d4_22) kt) ?_
      show Goes p e below s _ _ _ (s₁.setTop (mkF m 23 #[.val (.long q1), .second, .val (.int p2), .val (.int p3), .val (.int ((p3 >>> ((5 : Int32) &&& 31)) &&& (1 : Int32)))] [(.int (0 : Int32))]))
      refine Goes.ret X0 (some (.int (0 : Int32))) (fun h => by rw [Bd.returns] at h; cases h) (BodyLoose.notSynchronized Bd) (by decide) (by decide) (fun fs hr => retN X0 hx (t := .boolean) Bd.returns (by simp) (hb hby d4_23) hr) ?_
      show Q_rm4 Z q1 p2 p3 h0 n0 _ s₁.heap _
      rw [e0]
      exact ⟨(by simp [own_ref, hc12, hc19]), N0, rfl⟩
    · refine Goes.pre (fun t kt => XS.icmpYes X0.here hx rfl (pc0 := 19) (pc' := 24) rfl (hb hby d4_19) rfl (Jvm.Free.XT.ii_ne_t (hc19)) (by decide) (by decide) kt) ?_
      show Goes p e below s _ _ _ (s₁.setTop (mkF m 24 #[.val (.long q1), .second, .val (.int p2), .val (.int p3), .val (.int ((p3 >>> ((5 : Int32) &&& 31)) &&& (1 : Int32)))] []))
      refine Goes.pre (fun t kt => XS.iload X0.here hx rfl (hb hby d4_24) rfl kt) ?_
      show Goes p e below s _ _ _ (s₁.setTop (mkF m 26 #[.val (.long q1), .second, .val (.int p2), .val (.int p3), .val (.int ((p3 >>> ((5 : Int32) &&& 31)) &&& (1 : Int32)))] [(.int ((p3 >>> ((5 : Int32) &&& 31)) &&& (1 : Int32)))]))
      refine Goes.pre (fun t kt => XS.iconst X0.here hx rfl (hb hby d4_26) kt) ?_
      show Goes p e below s _ _ _ (s₁.setTop (mkF m 27 #[.val (.long q1), .second, .val (.int p2), .val (.int p3), .val (.int ((p3 >>> ((5 : Int32) &&& 31)) &&& (1 : Int32)))] [(.int (1 : Int32)), (.int ((p3 >>> ((5 : Int32) &&& 31)) &&& (1 : Int32)))]))
      by_cases hc27 : ((p3 >>> ((5 : Int32) &&& 31)) &&& (1 : Int32)) = (1 : Int32)
      · refine Goes.pre (fun t kt => XS.icmpNo X0.here hx rfl (hb hby d4_27) rfl (Jvm.Free.XT.ii_ne_f (hc27)) kt) ?_
        show Goes p e below s _ _ _ (s₁.setTop (mkF m 30 #[.val (.long q1), .second, .val (.int p2), .val (.int p3), .val (.int ((p3 >>> ((5 : Int32) &&& 31)) &&& (1 : Int32)))] []))
        refine Goes.pre (fun t kt => XS.iconst X0.here hx rfl (hb hby d4_30) kt) ?_
        show Goes p e below s _ _ _ (s₁.setTop (mkF m 31 #[.val (.long q1), .second, .val (.int p2), .val (.int p3), .val (.int ((p3 >>> ((5 : Int32) &&& 31)) &&& (1 : Int32)))] [(.int (0 : Int32))]))
        refine Goes.ret X0 (some (.int (0 : Int32))) (fun h => by rw [Bd.returns] at h; cases h) (BodyLoose.notSynchronized Bd) (by decide) (by decide) (fun fs hr => retN X0 hx (t := .boolean) Bd.returns (by simp) (hb hby d4_31) hr) ?_
        show Q_rm4 Z q1 p2 p3 h0 n0 _ s₁.heap _
        rw [e0]
        exact ⟨(by simp [own_ref, hc12, hc19, hc27]), N0, rfl⟩
      · refine Goes.pre (fun t kt => XS.icmpYes X0.here hx rfl (pc0 := 27) (pc' := 32) rfl (hb hby d4_27) rfl (Jvm.Free.XT.ii_ne_t (hc27)) (by decide) (by decide) kt) ?_
        show Goes p e below s _ _ _ (s₁.setTop (mkF m 32 #[.val (.long q1), .second, .val (.int p2), .val (.int p3), .val (.int ((p3 >>> ((5 : Int32) &&& 31)) &&& (1 : Int32)))] []))
        refine Goes.pre (fun t kt => XS.iconst X0.here hx rfl (hb hby d4_32) kt) ?_
        show Goes p e below s _ _ _ (s₁.setTop (mkF m 33 #[.val (.long q1), .second, .val (.int p2), .val (.int p3), .val (.int ((p3 >>> ((5 : Int32) &&& 31)) &&& (1 : Int32)))] [(.int (1 : Int32))]))
        refine Goes.ret X0 (some (.int (1 : Int32))) (fun h => by rw [Bd.returns] at h; cases h) (BodyLoose.notSynchronized Bd) (by decide) (by decide) (fun fs hr => retN X0 hx (t := .boolean) Bd.returns (by simp) (hb hby d4_33) hr) ?_
        show Q_rm4 Z q1 p2 p3 h0 n0 _ s₁.heap _
        rw [e0]
        exact ⟨(by simp [own_ref, hc12, hc19, hc27]), N0, rfl⟩
theorem d5_0 : decode prog_49_method_14_code 0 = .ok (.aload_n 0, 1) := by decide +kernel
theorem d5_1 : decode prog_49_method_14_code 1 = .ok (.getfield 41, 3) := by decide +kernel
theorem d5_4 : decode prog_49_method_14_code 4 = .ok (.ldc2_w 23, 3) := by decide +kernel
theorem d5_7 : decode prog_49_method_14_code 7 = .ok (.lcmp, 1) := by decide +kernel
theorem d5_8 : decode prog_49_method_14_code 8 = .ok (.ifCond .eq 25, 3) := by decide +kernel
theorem d5_33 : decode prog_49_method_14_code 33 = .ok (.iconst 0, 1) := by decide +kernel
theorem d5_34 : decode prog_49_method_14_code 34 = .ok (.ireturn, 1) := by decide +kernel
theorem d5_11 : decode prog_49_method_14_code 11 = .ok (.aload_n 0, 1) := by decide +kernel
theorem d5_12 : decode prog_49_method_14_code 12 = .ok (.getfield 47, 3) := by decide +kernel
theorem d5_15 : decode prog_49_method_14_code 15 = .ok (.iconst (-1), 1) := by decide +kernel
theorem d5_16 : decode prog_49_method_14_code 16 = .ok (.if_icmp .eq 17, 3) := by decide +kernel
theorem d5_19 : decode prog_49_method_14_code 19 = .ok (.aload_n 0, 1) := by decide +kernel
theorem d5_20 : decode prog_49_method_14_code 20 = .ok (.getfield 28, 3) := by decide +kernel
theorem d5_23 : decode prog_49_method_14_code 23 = .ok (.bipush 32, 2) := by decide +kernel
theorem d5_25 : decode prog_49_method_14_code 25 = .ok (.iand, 1) := by decide +kernel
theorem d5_26 : decode prog_49_method_14_code 26 = .ok (.ifCond .ne 7, 3) := by decide +kernel
theorem d5_29 : decode prog_49_method_14_code 29 = .ok (.iconst 1, 1) := by decide +kernel
theorem d5_30 : decode prog_49_method_14_code 30 = .ok (.goto 4, 3) := by decide +kernel
def Q_rm5 (Z : State) (a1 : Addr) (f1 : Int64) (f2 : Int32) (f3 : Int32) (h0 : Heap) (n0 : Nat) (v : Option Value) (h : Heap) (L : List Loc) : Prop := v = some (.int (own_seq f1 f2 f3)) ∧ Fr n0 L ∧ h = h0
theorem ef_rm5 (m : MethodId) (a1 : Addr) : entryFrame m #[(.ref a1)] 1 = mkF m 0 #[.val (.ref a1)] [] := by first | (simp [entryFrame, mkF, argsToLocals, Value.category]; done) | rfl
set_option maxRecDepth 65536 in
set_option maxHeartbeats 40000000 in
theorem rm5 (l : Launch) (Z : State) (a0 : Array Value) (hw : ∀ d ∈ tables_1, d.before a0 Z = true) (ws : List Jvm.Cond) (a1 : Addr) (f1 : Int64) (f2 : Int32) (f3 : Int32) (h0 : Heap) (n0 : Nat) (Z0 : n0 ≤ h0.size) (pf_F_a1_com_example_seqlint_seqlint_kafka_Batch_producerId : Fld Z h0 a1 "com/example/seqlint/seqlint/kafka/Batch" "producerId" "J" (.long f1)) (pf_F_a1_com_example_seqlint_seqlint_kafka_Batch_baseSequence : Fld Z h0 a1 "com/example/seqlint/seqlint/kafka/Batch" "baseSequence" "I" (.int f2)) (pf_F_a1_com_example_seqlint_seqlint_kafka_Batch_attributes : Fld Z h0 a1 "com/example/seqlint/seqlint/kafka/Batch" "attributes" "S" (.int f3)) :
    MetFree l (⟨"com/example/seqlint/seqlint/kafka/Batch", "isSequenced", "()Z"⟩ : MethodName) (head1 (Jvm.Cond.code (⟨"com/example/seqlint/seqlint/kafka/Batch", "isSequenced", "()Z"⟩ : MethodName) prog_49_method_14_code 1 (some .boolean) :: ws) ({ frames := 0, cells := 0, slots := 0, locals := 0 } : Room)) (fun a U => a = #[(.ref a1)] ∧ Z.Warmed39 U.vm ∧ U.heap = h0) (fun _ _ _ _ _ => True) (fun _ U o U' => ∃ v L, o = .returned v ∧ Q_rm5 Z a1 f1 f2 f3 h0 n0 v U'.heap L ∧ FrameEnd U o U' L ({ frames := 0, cells := 0, slots := 0, locals := 0 } : Room).cells ({ frames := 0, cells := 0, slots := 0, locals := 0 } : Room).slots) := by
  refine MetFree.of_bodySF (plainFor_of_name pn_0) hisR ?_
  intro p e s m args below meth c s₁ Bd hml0 hP hK
  obtain ⟨rfl, hZ, hh⟩ := hP
  have hx := Bd.exec
  have hby := Bd.bytes
  have hml : c.maxLocals = 1 := hml0
  have hown : s.vm.findClass "com/example/seqlint/seqlint/kafka/Batch" = some m.cls := findClass_of_methodNamed Bd.named
  have hnm := (name_of_methodNamed Bd.named Bd.method).1
  have X0 : Stand p l e ({ frames := 0, cells := 0, slots := 0, locals := 0 } : Room) s m #[(.ref a1)] below meth c s₁ [] 0 0 := Stand.of_body Bd
  have e0 : s₁.heap = h0 := by rw [← hh, Bd.state]; rfl
  have N0 := Fr.nil n0
  show Goes p e below s (Q_rm5 Z a1 f1 f2 f3 h0 n0) ({ frames := 0, cells := 0, slots := 0, locals := 0 } : Room).cells ({ frames := 0, cells := 0, slots := 0, locals := 0 } : Room).slots (s₁.setTop (entryFrame m #[(.ref a1)] 1))
  refine Goes.pre (fun t kt => castTop (ef_rm5 m a1) kt) ?_
  show Goes p e below s _ _ _ (s₁.setTop (mkF m 0 #[.val (.ref a1)] []))
  refine Goes.pre (fun t kt => XS.aloadN X0.here hx rfl (hb hby d5_0) rfl rfl kt) ?_
  show Goes p e below s _ _ _ (s₁.setTop (mkF m 1 #[.val (.ref a1)] [(.ref a1)]))
  obtain ⟨T1, X1, e1, st1⟩ := getF X0 hx hZ hown (host := "") (Or.inl (hw _ (List.mem_of_getElem? (i := 33) rfl))) Via.refl e0 pf_F_a1_com_example_seqlint_seqlint_kafka_Batch_producerId (g := (mkF m 1 #[.val (.ref a1)] [(.ref a1)])) rfl rfl (hb hby d5_1)
  refine Goes.pre st1 ?_
  show Goes p e below s _ _ _ (T1.setTop (mkF m 4 #[.val (.ref a1)] [(.long f1)]))
  refine Goes.pre (X1.ldc2Long hx hown (mvT hZ (hw _ (List.mem_of_getElem? (i := 22) rfl))) (g := (mkF m 4 #[.val (.ref a1)] [(.long f1)])) rfl (hb hby d5_4)) ?_
  show Goes p e below s _ _ _ (T1.setTop (mkF m 7 #[.val (.ref a1)] [(.long (-1 : Int64)), (.long f1)]))
  refine Goes.pre (fun t kt => XS.lcmp X1.here hx rfl (hb hby d5_7) rfl kt) ?_
  show Goes p e below s _ _ _ (T1.setTop (mkF m 8 #[.val (.ref a1)] [(.int (lcmpW f1 (-1 : Int64)))]))
  by_cases hc8 : f1 = (-1 : Int64)
  · refine Goes.pre (fun t kt => XS.ifYes X1.here hx rfl (pc0 := 8) (pc' := 33) rfl (hb hby d5_8) rfl (Jvm.Free.XT.i0_eq_t ((lw_eq _ _).mpr hc8)) (by decide) (by decide) kt) ?_
    show Goes p e below s _ _ _ (T1.setTop (mkF m 33 #[.val (.ref a1)] []))
    refine Goes.pre (fun t kt => XS.iconst X1.here hx rfl (hb hby d5_33) kt) ?_
    show Goes p e below s _ _ _ (T1.setTop (mkF m 34 #[.val (.ref a1)] [(.int (0 : Int32))]))
    refine Goes.ret X1 (some (.int (0 : Int32))) (fun h => by rw [Bd.returns] at h; cases h) (BodyLoose.notSynchronized Bd) (by decide) (by decide) (fun fs hr => retN X1 hx (t := .boolean) Bd.returns (by simp) (hb hby d5_34) hr) ?_
    show Q_rm5 Z a1 f1 f2 f3 h0 n0 _ T1.heap _
    rw [e1]
    exact ⟨(by simp [own_seq, hc8]), N0, rfl⟩
  · refine Goes.pre (fun t kt => XS.ifNo X1.here hx rfl (hb hby d5_8) rfl (Jvm.Free.XT.i0_eq_f ((not_congr (lw_eq _ _)).mpr hc8)) kt) ?_
    show Goes p e below s _ _ _ (T1.setTop (mkF m 11 #[.val (.ref a1)] []))
    refine Goes.pre (fun t kt => XS.aloadN X1.here hx rfl (hb hby d5_11) rfl rfl kt) ?_
    show Goes p e below s _ _ _ (T1.setTop (mkF m 12 #[.val (.ref a1)] [(.ref a1)]))
    obtain ⟨T2, X2, e2, st2⟩ := getF X1 hx hZ hown (host := "") (Or.inl (hw _ (List.mem_of_getElem? (i := 37) rfl))) Via.refl e1 pf_F_a1_com_example_seqlint_seqlint_kafka_Batch_baseSequence (g := (mkF m 12 #[.val (.ref a1)] [(.ref a1)])) rfl rfl (hb hby d5_12)
    refine Goes.pre st2 ?_
    show Goes p e below s _ _ _ (T2.setTop (mkF m 15 #[.val (.ref a1)] [(.int f2)]))
    refine Goes.pre (fun t kt => XS.iconst X2.here hx rfl (hb hby d5_15) kt) ?_
    show Goes p e below s _ _ _ (T2.setTop (mkF m 16 #[.val (.ref a1)] [(.int (-1 : Int32)), (.int f2)]))
    by_cases hc16 : f2 = (-1 : Int32)
    · refine Goes.pre (fun t kt => XS.icmpYes X2.here hx rfl (pc0 := 16) (pc' := 33) rfl (hb hby d5_16) rfl (Jvm.Free.XT.ii_eq_t (hc16)) (by decide) (by decide) kt) ?_
      show Goes p e below s _ _ _ (T2.setTop (mkF m 33 #[.val (.ref a1)] []))
      refine Goes.pre (fun t kt => XS.iconst X2.here hx rfl (hb hby d5_33) kt) ?_
      show Goes p e below s _ _ _ (T2.setTop (mkF m 34 #[.val (.ref a1)] [(.int (0 : Int32))]))
      refine Goes.ret X2 (some (.int (0 : Int32))) (fun h => by rw [Bd.returns] at h; cases h) (BodyLoose.notSynchronized Bd) (by decide) (by decide) (fun fs hr => retN X2 hx (t := .boolean) Bd.returns (by simp) (hb hby d5_34) hr) ?_
      show Q_rm5 Z a1 f1 f2 f3 h0 n0 _ T2.heap _
      rw [e2]
      exact ⟨(by simp [own_seq, hc8, hc16]), N0, rfl⟩
    · refine Goes.pre (fun t kt => XS.icmpNo X2.here hx rfl (hb hby d5_16) rfl (Jvm.Free.XT.ii_eq_f (hc16)) kt) ?_
      show Goes p e below s _ _ _ (T2.setTop (mkF m 19 #[.val (.ref a1)] []))
      refine Goes.pre (fun t kt => XS.aloadN X2.here hx rfl (hb hby d5_19) rfl rfl kt) ?_
      show Goes p e below s _ _ _ (T2.setTop (mkF m 20 #[.val (.ref a1)] [(.ref a1)]))
      obtain ⟨T3, X3, e3, st3⟩ := getF X2 hx hZ hown (host := "") (Or.inl (hw _ (List.mem_of_getElem? (i := 25) rfl))) Via.refl e2 pf_F_a1_com_example_seqlint_seqlint_kafka_Batch_attributes (g := (mkF m 20 #[.val (.ref a1)] [(.ref a1)])) rfl rfl (hb hby d5_20)
      refine Goes.pre st3 ?_
      show Goes p e below s _ _ _ (T3.setTop (mkF m 23 #[.val (.ref a1)] [(.int f3)]))
      refine Goes.pre (fun t kt => XS.bipush X3.here hx rfl (hb hby d5_23) kt) ?_
      show Goes p e below s _ _ _ (T3.setTop (mkF m 25 #[.val (.ref a1)] [(.int (32 : Int32)), (.int f3)]))
      refine Goes.pre (fun t kt => XS.iand X3.here hx rfl (hb hby d5_25) rfl kt) ?_
      show Goes p e below s _ _ _ (T3.setTop (mkF m 26 #[.val (.ref a1)] [(.int (f3 &&& (32 : Int32)))]))
      by_cases hc26 : (f3 &&& (32 : Int32)) = (0 : Int32)
      · refine Goes.pre (fun t kt => XS.ifNo X3.here hx rfl (hb hby d5_26) rfl (Jvm.Free.XT.i0_ne_f (hc26)) kt) ?_
        show Goes p e below s _ _ _ (T3.setTop (mkF m 29 #[.val (.ref a1)] []))
        refine Goes.pre (fun t kt => XS.iconst X3.here hx rfl (hb hby d5_29) kt) ?_
        show Goes p e below s _ _ _ (T3.setTop (mkF m 30 #[.val (.ref a1)] [(.int (1 : Int32))]))
        refine Goes.pre (fun t kt => XS.goto X3.here hx rfl (pc0 := 30) (pc' := 34) rfl (hb hby d5_30) (by decide) (by decide) kt) ?_
        show Goes p e below s _ _ _ (T3.setTop (mkF m 34 #[.val (.ref a1)] [(.int (1 : Int32))]))
        refine Goes.ret X3 (some (.int (1 : Int32))) (fun h => by rw [Bd.returns] at h; cases h) (BodyLoose.notSynchronized Bd) (by decide) (by decide) (fun fs hr => retN X3 hx (t := .boolean) Bd.returns (by simp) (hb hby d5_34) hr) ?_
        show Q_rm5 Z a1 f1 f2 f3 h0 n0 _ T3.heap _
        rw [e3]
        exact ⟨(by simp [own_seq, hc8, hc16, hc26]), N0, rfl⟩
      · refine Goes.pre (fun t kt => XS.ifYes X3.here hx rfl (pc0 := 26) (pc' := 33) rfl (hb hby d5_26) rfl (Jvm.Free.XT.i0_ne_t (hc26)) (by decide) (by decide) kt) ?_
        show Goes p e below s _ _ _ (T3.setTop (mkF m 33 #[.val (.ref a1)] []))
        refine Goes.pre (fun t kt => XS.iconst X3.here hx rfl (hb hby d5_33) kt) ?_
        show Goes p e below s _ _ _ (T3.setTop (mkF m 34 #[.val (.ref a1)] [(.int (0 : Int32))]))
        refine Goes.ret X3 (some (.int (0 : Int32))) (fun h => by rw [Bd.returns] at h; cases h) (BodyLoose.notSynchronized Bd) (by decide) (by decide) (fun fs hr => retN X3 hx (t := .boolean) Bd.returns (by simp) (hb hby d5_34) hr) ?_
        show Q_rm5 Z a1 f1 f2 f3 h0 n0 _ T3.heap _
        rw [e3]
        exact ⟨(by simp [own_seq, hc8, hc16, hc26]), N0, rfl⟩
theorem pd_2 : parseMethodDescriptor "()V" = some ⟨[], none⟩ := by decide +kernel
theorem pd_3 : parseMethodDescriptor "(JJIJSIJJJSII)V" = some ⟨[.long, .long, .int, .long, .short, .int, .long, .long, .long, .short, .int, .int], none⟩ := by decide +kernel
theorem pd_4 : parseMethodDescriptor "(JIS)Z" = some ⟨[.long, .int, .short], some .boolean⟩ := by decide +kernel
theorem pd_5 : parseMethodDescriptor "()Z" = some ⟨[], some .boolean⟩ := by decide +kernel
theorem pd_6 : parseMethodDescriptor "(JLcom/example/seqlint/seqlint/kafka/Batch$Marker;)V" = some ⟨[.long, (.object "com/example/seqlint/seqlint/kafka/Batch$Marker")], none⟩ := by decide +kernel
def Q_rm0 (Z : State) (q1 : Int64) (p2 : Int32) (p3 : Int32) (p4 : Int32) (q5 : Int64) (h0 : Heap) (n0 : Nat) (v : Option Value) (h : Heap) (L : List Loc) : Prop := v = some (.int (1 : Int32)) ∧ Fr n0 L
theorem ef_rm0 (m : MethodId) (q1 : Int64) (p2 : Int32) (p3 : Int32) (p4 : Int32) (q5 : Int64) : entryFrame m #[(.long q1), (.int p2), (.int p3), (.int p4), (.long q5)] maxLocals = mkF m 0 #[.val (.long q1), .second, .val (.int p2), .val (.int p3), .val (.int p4), .val (.long q5), .second, .unset, .unset, .unset, .unset, .unset, .unset] [] := by first | (simp [entryFrame, mkF, argsToLocals, Value.category, maxLocals]; done) | rfl
set_option maxRecDepth 65536 in
set_option maxHeartbeats 40000000 in
theorem rm0 (l : Launch) (Z : State) (a0 : Array Value) (hw : ∀ d ∈ tables_1, d.before a0 Z = true) (ws : List Jvm.Cond) (q1 : Int64) (p2 : Int32) (p3 : Int32) (p4 : Int32) (q5 : Int64) (h0 : Heap) (n0 : Nat) (Z0 : n0 ≤ h0.size) :
    MetFree l x (head1 (Jvm.Cond.code x code maxLocals ret :: ws) room_1) (fun a U => a = #[(.long q1), (.int p2), (.int p3), (.int p4), (.long q5)] ∧ Z.Warmed39 U.vm ∧ U.heap = h0) (fun _ _ _ _ _ => True) (fun _ U o U' => ∃ v L, o = .returned v ∧ Q_rm0 Z q1 p2 p3 p4 q5 h0 n0 v U'.heap L ∧ FrameEnd U o U' L room_1.cells room_1.slots) := by
  refine MetFree.of_bodySF (plainFor_of_name pn_1) hisR ?_
  intro p e s m args below meth c s₁ Bd hml0 hP hK
  obtain ⟨rfl, hZ, hh⟩ := hP
  have hx := Bd.exec
  have hby := Bd.bytes
  have hml : c.maxLocals = 13 := hml0
  have hown : s.vm.findClass "com/example/seqlint/seqlint/kafka/BatchIsSequencedPinLaw" = some m.cls := findClass_of_methodNamed Bd.named
  have hnm := (name_of_methodNamed Bd.named Bd.method).1
  have X0 : Stand p l e room_1 s m #[(.long q1), (.int p2), (.int p3), (.int p4), (.long q5)] below meth c s₁ [] 0 0 := Stand.of_body Bd
  have e0 : s₁.heap = h0 := by rw [← hh, Bd.state]; rfl
  have N0 := Fr.nil n0
  show Goes p e below s (Q_rm0 Z q1 p2 p3 p4 q5 h0 n0) room_1.cells room_1.slots (s₁.setTop (entryFrame m #[(.long q1), (.int p2), (.int p3), (.int p4), (.long q5)] maxLocals))
  refine Goes.pre (fun t kt => castTop (ef_rm0 m q1 p2 p3 p4 q5) kt) ?_
  show Goes p e below s _ _ _ (s₁.setTop (mkF m 0 #[.val (.long q1), .second, .val (.int p2), .val (.int p3), .val (.int p4), .val (.long q5), .second, .unset, .unset, .unset, .unset, .unset, .unset] []))
  refine Goes.pre (fun t kt => XS.iload X0.here hx rfl (hb hby at_0) rfl kt) ?_
  show Goes p e below s _ _ _ (s₁.setTop (mkF m 2 #[.val (.long q1), .second, .val (.int p2), .val (.int p3), .val (.int p4), .val (.long q5), .second, .unset, .unset, .unset, .unset, .unset, .unset] [(.int p4)]))
  refine Goes.pre (fun t kt => XS.iconst X0.here hx rfl (hb hby at_2) kt) ?_
  show Goes p e below s _ _ _ (s₁.setTop (mkF m 3 #[.val (.long q1), .second, .val (.int p2), .val (.int p3), .val (.int p4), .val (.long q5), .second, .unset, .unset, .unset, .unset, .unset, .unset] [(.int (1 : Int32)), (.int p4)]))
  refine Goes.pre (fun t kt => XS.iand X0.here hx rfl (hb hby at_3) rfl kt) ?_
  show Goes p e below s _ _ _ (s₁.setTop (mkF m 4 #[.val (.long q1), .second, .val (.int p2), .val (.int p3), .val (.int p4), .val (.long q5), .second, .unset, .unset, .unset, .unset, .unset, .unset] [(.int (p4 &&& (1 : Int32)))]))
  have J1 : ∀ (j1_0 : Int64), Goes p e below s (Q_rm0 Z q1 p2 p3 p4 q5 h0 n0) room_1.cells room_1.slots (s₁.setTop (mkF m 14 #[.val (.long q1), .second, .val (.int p2), .val (.int p3), .val (.int p4), .val (.long q5), .second, .unset, .unset, .unset, .unset, .unset, .unset] [(.long j1_0)])) := by
    intro j1_0
    refine Goes.pre (fun t kt => XS.lstore X0.here hx rfl (hb hby at_14) rfl (l' := #[.val (.long q1), .second, .val (.int p2), .val (.int p3), .val (.int p4), .val (.long q5), .second, .val (.long j1_0), .second, .unset, .unset, .unset, .unset]) rfl kt) ?_
    show Goes p e below s _ _ _ (s₁.setTop (mkF m 16 #[.val (.long q1), .second, .val (.int p2), .val (.int p3), .val (.int p4), .val (.long q5), .second, .val (.long j1_0), .second, .unset, .unset, .unset, .unset] []))
    refine Goes.pre (fun t kt => XS.iload X0.here hx rfl (hb hby at_16) rfl kt) ?_
    show Goes p e below s _ _ _ (s₁.setTop (mkF m 18 #[.val (.long q1), .second, .val (.int p2), .val (.int p3), .val (.int p4), .val (.long q5), .second, .val (.long j1_0), .second, .unset, .unset, .unset, .unset] [(.int p4)]))
    refine Goes.pre (fun t kt => XS.iconst X0.here hx rfl (hb hby at_18) kt) ?_
    show Goes p e below s _ _ _ (s₁.setTop (mkF m 19 #[.val (.long q1), .second, .val (.int p2), .val (.int p3), .val (.int p4), .val (.long q5), .second, .val (.long j1_0), .second, .unset, .unset, .unset, .unset] [(.int (2 : Int32)), (.int p4)]))
    refine Goes.pre (fun t kt => XS.iand X0.here hx rfl (hb hby at_19) rfl kt) ?_
    show Goes p e below s _ _ _ (s₁.setTop (mkF m 20 #[.val (.long q1), .second, .val (.int p2), .val (.int p3), .val (.int p4), .val (.long q5), .second, .val (.long j1_0), .second, .unset, .unset, .unset, .unset] [(.int (p4 &&& (2 : Int32)))]))
    have J2 : ∀ (j2_0 : Int32), Goes p e below s (Q_rm0 Z q1 p2 p3 p4 q5 h0 n0) room_1.cells room_1.slots (s₁.setTop (mkF m 28 #[.val (.long q1), .second, .val (.int p2), .val (.int p3), .val (.int p4), .val (.long q5), .second, .val (.long j1_0), .second, .unset, .unset, .unset, .unset] [(.int j2_0)])) := by
      intro j2_0
      refine Goes.pre (fun t kt => XS.istore X0.here hx rfl (hb hby at_28) rfl (l' := #[.val (.long q1), .second, .val (.int p2), .val (.int p3), .val (.int p4), .val (.long q5), .second, .val (.long j1_0), .second, .val (.int j2_0), .unset, .unset, .unset]) rfl kt) ?_
      show Goes p e below s _ _ _ (s₁.setTop (mkF m 30 #[.val (.long q1), .second, .val (.int p2), .val (.int p3), .val (.int p4), .val (.long q5), .second, .val (.long j1_0), .second, .val (.int j2_0), .unset, .unset, .unset] []))
      refine Goes.pre (fun t kt => XS.iload X0.here hx rfl (hb hby at_30) rfl kt) ?_
      show Goes p e below s _ _ _ (s₁.setTop (mkF m 32 #[.val (.long q1), .second, .val (.int p2), .val (.int p3), .val (.int p4), .val (.long q5), .second, .val (.long j1_0), .second, .val (.int j2_0), .unset, .unset, .unset] [(.int p4)]))
      refine Goes.pre (fun t kt => XS.iconst X0.here hx rfl (hb hby at_32) kt) ?_
      show Goes p e below s _ _ _ (s₁.setTop (mkF m 33 #[.val (.long q1), .second, .val (.int p2), .val (.int p3), .val (.int p4), .val (.long q5), .second, .val (.long j1_0), .second, .val (.int j2_0), .unset, .unset, .unset] [(.int (4 : Int32)), (.int p4)]))
      refine Goes.pre (fun t kt => XS.iand X0.here hx rfl (hb hby at_33) rfl kt) ?_
      show Goes p e below s _ _ _ (s₁.setTop (mkF m 34 #[.val (.long q1), .second, .val (.int p2), .val (.int p3), .val (.int p4), .val (.long q5), .second, .val (.long j1_0), .second, .val (.int j2_0), .unset, .unset, .unset] [(.int (p4 &&& (4 : Int32)))]))
      have J3 : ∀ (j3_0 : Int32), (j3_0.toInt16.toInt32 = j3_0) → Goes p e below s (Q_rm0 Z q1 p2 p3 p4 q5 h0 n0) room_1.cells room_1.slots (s₁.setTop (mkF m 69 #[.val (.long q1), .second, .val (.int p2), .val (.int p3), .val (.int p4), .val (.long q5), .second, .val (.long j1_0), .second, .val (.int j2_0), .val (.int j3_0), .unset, .unset] [])) := by
        intro j3_0 hs
        obtain ⟨T4, h4, X4, e4, E4, A4, D4, U4, st4⟩ := newO X0 hx hZ hown (hw _ (List.mem_of_getElem? (i := 0) rfl)) (hw _ (List.mem_of_getElem? (i := 1) rfl)) (hw _ (List.mem_of_getElem? (i := 2) rfl)) e0 (g := (mkF m 69 #[.val (.long q1), .second, .val (.int p2), .val (.int p3), .val (.int p4), .val (.long q5), .second, .val (.long j1_0), .second, .val (.int j2_0), .val (.int j3_0), .unset, .unset] [])) rfl (hb hby at_69) (by decide) (by decide)
        obtain ⟨b4, g4⟩ : ∃ z, z = h0.size := ⟨_, rfl⟩
        rw [← g4] at A4 D4 U4 st4
        have gg4 : n0 ≤ b4 := Nat.le_trans Z0 (Nat.le_of_eq g4.symm)
        have Z4 : n0 ≤ h4.size := Nat.le_trans Z0 E4.1
        refine Goes.pre st4 ?_
        have Fn4_15 : Fld Z h4 b4 "com/example/seqlint/seqlint/kafka/Batch" "position" "J" (.long (0 : Int64)) := D4 (Or.inl (hw _ (List.mem_of_getElem? (i := 15) rfl))) (ty := .long) (by decide)
        have Fn4_17 : Fld Z h4 b4 "com/example/seqlint/seqlint/kafka/Batch" "baseOffset" "J" (.long (0 : Int64)) := D4 (Or.inl (hw _ (List.mem_of_getElem? (i := 17) rfl))) (ty := .long) (by decide)
        have Fn4_19 : Fld Z h4 b4 "com/example/seqlint/seqlint/kafka/Batch" "leaderEpoch" "I" (.int (0 : Int32)) := D4 (Or.inl (hw _ (List.mem_of_getElem? (i := 19) rfl))) (ty := .int) (by decide)
        have Fn4_21 : Fld Z h4 b4 "com/example/seqlint/seqlint/kafka/Batch" "storedCrc" "J" (.long (0 : Int64)) := D4 (Or.inl (hw _ (List.mem_of_getElem? (i := 21) rfl))) (ty := .long) (by decide)
        have Fn4_24 : Fld Z h4 b4 "com/example/seqlint/seqlint/kafka/Batch" "computedCrc" "J" (.long (0 : Int64)) := D4 (Or.inl (hw _ (List.mem_of_getElem? (i := 24) rfl))) (ty := .long) (by decide)
        have Fn4_26 : Fld Z h4 b4 "com/example/seqlint/seqlint/kafka/Batch" "attributes" "S" (.int (0 : Int32)) := D4 (Or.inl (hw _ (List.mem_of_getElem? (i := 26) rfl))) (ty := .short) (by decide)
        have Fn4_28 : Fld Z h4 b4 "com/example/seqlint/seqlint/kafka/Batch" "lastOffsetDelta" "I" (.int (0 : Int32)) := D4 (Or.inl (hw _ (List.mem_of_getElem? (i := 28) rfl))) (ty := .int) (by decide)
        have Fn4_30 : Fld Z h4 b4 "com/example/seqlint/seqlint/kafka/Batch" "firstTimestamp" "J" (.long (0 : Int64)) := D4 (Or.inl (hw _ (List.mem_of_getElem? (i := 30) rfl))) (ty := .long) (by decide)
        have Fn4_32 : Fld Z h4 b4 "com/example/seqlint/seqlint/kafka/Batch" "maxTimestamp" "J" (.long (0 : Int64)) := D4 (Or.inl (hw _ (List.mem_of_getElem? (i := 32) rfl))) (ty := .long) (by decide)
        have Fn4_34 : Fld Z h4 b4 "com/example/seqlint/seqlint/kafka/Batch" "producerId" "J" (.long (0 : Int64)) := D4 (Or.inl (hw _ (List.mem_of_getElem? (i := 34) rfl))) (ty := .long) (by decide)
        have Fn4_36 : Fld Z h4 b4 "com/example/seqlint/seqlint/kafka/Batch" "producerEpoch" "S" (.int (0 : Int32)) := D4 (Or.inl (hw _ (List.mem_of_getElem? (i := 36) rfl))) (ty := .short) (by decide)
        have Fn4_38 : Fld Z h4 b4 "com/example/seqlint/seqlint/kafka/Batch" "baseSequence" "I" (.int (0 : Int32)) := D4 (Or.inl (hw _ (List.mem_of_getElem? (i := 38) rfl))) (ty := .int) (by decide)
        have Fn4_40 : Fld Z h4 b4 "com/example/seqlint/seqlint/kafka/Batch" "recordCount" "I" (.int (0 : Int32)) := D4 (Or.inl (hw _ (List.mem_of_getElem? (i := 40) rfl))) (ty := .int) (by decide)
        have Fn4_42 : Fld Z h4 b4 "com/example/seqlint/seqlint/kafka/Batch" "marker" "Lcom/example/seqlint/seqlint/kafka/Batch$Marker;" .null := D4 (Or.inl (hw _ (List.mem_of_getElem? (i := 42) rfl))) (ty := (.object "com/example/seqlint/seqlint/kafka/Batch$Marker")) (by decide)
        show Goes p e below s _ _ _ (T4.setTop (mkF m 72 #[.val (.long q1), .second, .val (.int p2), .val (.int p3), .val (.int p4), .val (.long q5), .second, .val (.long j1_0), .second, .val (.int j2_0), .val (.int j3_0), .unset, .unset] [(.ref b4)]))
        refine Goes.pre (fun t kt => XS.dup X4.here hx rfl (hb hby at_72) rfl rfl kt) ?_
        show Goes p e below s _ _ _ (T4.setTop (mkF m 73 #[.val (.long q1), .second, .val (.int p2), .val (.int p3), .val (.int p4), .val (.long q5), .second, .val (.long j1_0), .second, .val (.int j2_0), .val (.int j3_0), .unset, .unset] [(.ref b4), (.ref b4)]))
        obtain ⟨_, _, ⟨T5, L5, k5, n5⟩, -, X5, ⟨Lc5, hQ5, l5, y5, z5⟩, st5⟩ := X4.specialBack hx (y := (⟨"com/example/seqlint/seqlint/kafka/Batch", "<init>", "()V"⟩ : MethodName)) rfl hown (mvT hZ (hw _ (List.mem_of_getElem? (i := 3) rfl))) (mvT hZ (hw _ (List.mem_of_getElem? (i := 4) rfl))) (mvT hZ (hw _ (List.mem_of_getElem? (i := 5) rfl))) (by decide) (backOf (W := 1) (rm1 l Z a0 hw [] b4 h4 n0 Z4 ) hZ (hw _ (List.mem_of_getElem? (i := 5) rfl)) (hw _ (List.mem_of_getElem? (i := 2) rfl)) (by decide) (by decide)) (g := (mkF m 73 #[.val (.long q1), .second, .val (.int p2), .val (.int p3), .val (.int p4), .val (.long q5), .second, .val (.long j1_0), .second, .val (.int j2_0), .val (.int j3_0), .unset, .unset] [(.ref b4), (.ref b4)])) rfl (by rw [hml]; rfl) (Steps.refl _) (a := b4) (argsL := []) (rest := [(.ref b4)]) (lenOf pd_2 rfl) rfl (by show 2 * 0 + _ ≤ _; exact Nat.le_of_eq rfl) (hb hby at_73) (fun _ _ => ⟨rfl, e4, (by decide : 1 + 0 ≤ _), (by decide : 14 + 0 ≤ _)⟩)
        dsimp only [Pt.U, Pt.locs, Pt.cells, Pt.slots] at X5 l5 y5 z5 st5 hQ5
        subst l5 y5 z5
        obtain ⟨rfl, Nq5, eq5⟩ := hQ5
        refine Goes.run st5 ?_
        have N5 := Fr.app N0 Nq5
        show Goes p e below s _ _ _ (T5.setTop (mkF m 76 #[.val (.long q1), .second, .val (.int p2), .val (.int p3), .val (.int p4), .val (.long q5), .second, .val (.long j1_0), .second, .val (.int j2_0), .val (.int j3_0), .unset, .unset] [(.ref b4)]))
        refine Goes.pre (fun t kt => XS.astore X5.here hx rfl (hb hby at_76) rfl rfl (l' := #[.val (.long q1), .second, .val (.int p2), .val (.int p3), .val (.int p4), .val (.long q5), .second, .val (.long j1_0), .second, .val (.int j2_0), .val (.int j3_0), .val (.ref b4), .unset]) rfl kt) ?_
        show Goes p e below s _ _ _ (T5.setTop (mkF m 78 #[.val (.long q1), .second, .val (.int p2), .val (.int p3), .val (.int p4), .val (.long q5), .second, .val (.long j1_0), .second, .val (.int j2_0), .val (.int j3_0), .val (.ref b4), .unset] []))
        refine Goes.pre (fun t kt => XS.aload X5.here hx rfl (hb hby at_78) rfl rfl kt) ?_
        show Goes p e below s _ _ _ (T5.setTop (mkF m 80 #[.val (.long q1), .second, .val (.int p2), .val (.int p3), .val (.int p4), .val (.long q5), .second, .val (.long j1_0), .second, .val (.int j2_0), .val (.int j3_0), .val (.ref b4), .unset] [(.ref b4)]))
        refine Goes.pre (fun t kt => XS.lload X5.here hx rfl (hb hby at_80) rfl kt) ?_
        show Goes p e below s _ _ _ (T5.setTop (mkF m 82 #[.val (.long q1), .second, .val (.int p2), .val (.int p3), .val (.int p4), .val (.long q5), .second, .val (.long j1_0), .second, .val (.int j2_0), .val (.int j3_0), .val (.ref b4), .unset] [(.long q5), (.ref b4)]))
        refine Goes.pre (fun t kt => XS.lload X5.here hx rfl (hb hby at_82) rfl kt) ?_
        show Goes p e below s _ _ _ (T5.setTop (mkF m 84 #[.val (.long q1), .second, .val (.int p2), .val (.int p3), .val (.int p4), .val (.long q5), .second, .val (.long j1_0), .second, .val (.int j2_0), .val (.int j3_0), .val (.ref b4), .unset] [(.long q5), (.long q5), (.ref b4)]))
        refine Goes.pre (fun t kt => XS.lload X5.here hx rfl (hb hby at_84) rfl kt) ?_
        show Goes p e below s _ _ _ (T5.setTop (mkF m 86 #[.val (.long q1), .second, .val (.int p2), .val (.int p3), .val (.int p4), .val (.long q5), .second, .val (.long j1_0), .second, .val (.int j2_0), .val (.int j3_0), .val (.ref b4), .unset] [(.long q5), (.long q5), (.long q5), (.ref b4)]))
        refine Goes.pre (fun t kt => XS.l2i X5.here hx rfl (hb hby at_86) rfl kt) ?_
        show Goes p e below s _ _ _ (T5.setTop (mkF m 87 #[.val (.long q1), .second, .val (.int p2), .val (.int p3), .val (.int p4), .val (.long q5), .second, .val (.long j1_0), .second, .val (.int j2_0), .val (.int j3_0), .val (.ref b4), .unset] [(.int (q5.toInt32)), (.long q5), (.long q5), (.ref b4)]))
        refine Goes.pre (fun t kt => XS.lload X5.here hx rfl (hb hby at_87) rfl kt) ?_
        show Goes p e below s _ _ _ (T5.setTop (mkF m 89 #[.val (.long q1), .second, .val (.int p2), .val (.int p3), .val (.int p4), .val (.long q5), .second, .val (.long j1_0), .second, .val (.int j2_0), .val (.int j3_0), .val (.ref b4), .unset] [(.long q5), (.int (q5.toInt32)), (.long q5), (.long q5), (.ref b4)]))
        refine Goes.pre (fun t kt => XS.iload X5.here hx rfl (hb hby at_89) rfl kt) ?_
        show Goes p e below s _ _ _ (T5.setTop (mkF m 91 #[.val (.long q1), .second, .val (.int p2), .val (.int p3), .val (.int p4), .val (.long q5), .second, .val (.long j1_0), .second, .val (.int j2_0), .val (.int j3_0), .val (.ref b4), .unset] [(.int j3_0), (.long q5), (.int (q5.toInt32)), (.long q5), (.long q5), (.ref b4)]))
        refine Goes.pre (fun t kt => XS.lload X5.here hx rfl (hb hby at_91) rfl kt) ?_
        show Goes p e below s _ _ _ (T5.setTop (mkF m 93 #[.val (.long q1), .second, .val (.int p2), .val (.int p3), .val (.int p4), .val (.long q5), .second, .val (.long j1_0), .second, .val (.int j2_0), .val (.int j3_0), .val (.ref b4), .unset] [(.long q5), (.int j3_0), (.long q5), (.int (q5.toInt32)), (.long q5), (.long q5), (.ref b4)]))
        refine Goes.pre (fun t kt => XS.l2i X5.here hx rfl (hb hby at_93) rfl kt) ?_
        show Goes p e below s _ _ _ (T5.setTop (mkF m 94 #[.val (.long q1), .second, .val (.int p2), .val (.int p3), .val (.int p4), .val (.long q5), .second, .val (.long j1_0), .second, .val (.int j2_0), .val (.int j3_0), .val (.ref b4), .unset] [(.int (q5.toInt32)), (.int j3_0), (.long q5), (.int (q5.toInt32)), (.long q5), (.long q5), (.ref b4)]))
        refine Goes.pre (fun t kt => XS.lload X5.here hx rfl (hb hby at_94) rfl kt) ?_
        show Goes p e below s _ _ _ (T5.setTop (mkF m 96 #[.val (.long q1), .second, .val (.int p2), .val (.int p3), .val (.int p4), .val (.long q5), .second, .val (.long j1_0), .second, .val (.int j2_0), .val (.int j3_0), .val (.ref b4), .unset] [(.long q5), (.int (q5.toInt32)), (.int j3_0), (.long q5), (.int (q5.toInt32)), (.long q5), (.long q5), (.ref b4)]))
        refine Goes.pre (fun t kt => XS.lload X5.here hx rfl (hb hby at_96) rfl kt) ?_
        show Goes p e below s _ _ _ (T5.setTop (mkF m 98 #[.val (.long q1), .second, .val (.int p2), .val (.int p3), .val (.int p4), .val (.long q5), .second, .val (.long j1_0), .second, .val (.int j2_0), .val (.int j3_0), .val (.ref b4), .unset] [(.long q5), (.long q5), (.int (q5.toInt32)), (.int j3_0), (.long q5), (.int (q5.toInt32)), (.long q5), (.long q5), (.ref b4)]))
        refine Goes.pre (fun t kt => XS.lload X5.here hx rfl (hb hby at_98) rfl kt) ?_
        show Goes p e below s _ _ _ (T5.setTop (mkF m 100 #[.val (.long q1), .second, .val (.int p2), .val (.int p3), .val (.int p4), .val (.long q5), .second, .val (.long j1_0), .second, .val (.int j2_0), .val (.int j3_0), .val (.ref b4), .unset] [(.long j1_0), (.long q5), (.long q5), (.int (q5.toInt32)), (.int j3_0), (.long q5), (.int (q5.toInt32)), (.long q5), (.long q5), (.ref b4)]))
        refine Goes.pre (fun t kt => XS.lload X5.here hx rfl (hb hby at_100) rfl kt) ?_
        show Goes p e below s _ _ _ (T5.setTop (mkF m 102 #[.val (.long q1), .second, .val (.int p2), .val (.int p3), .val (.int p4), .val (.long q5), .second, .val (.long j1_0), .second, .val (.int j2_0), .val (.int j3_0), .val (.ref b4), .unset] [(.long q5), (.long j1_0), (.long q5), (.long q5), (.int (q5.toInt32)), (.int j3_0), (.long q5), (.int (q5.toInt32)), (.long q5), (.long q5), (.ref b4)]))
        refine Goes.pre (fun t kt => XS.l2i X5.here hx rfl (hb hby at_102) rfl kt) ?_
        show Goes p e below s _ _ _ (T5.setTop (mkF m 103 #[.val (.long q1), .second, .val (.int p2), .val (.int p3), .val (.int p4), .val (.long q5), .second, .val (.long j1_0), .second, .val (.int j2_0), .val (.int j3_0), .val (.ref b4), .unset] [(.int (q5.toInt32)), (.long j1_0), (.long q5), (.long q5), (.int (q5.toInt32)), (.int j3_0), (.long q5), (.int (q5.toInt32)), (.long q5), (.long q5), (.ref b4)]))
        refine Goes.pre (fun t kt => XS.i2s X5.here hx rfl (hb hby at_103) rfl kt) ?_
        show Goes p e below s _ _ _ (T5.setTop (mkF m 104 #[.val (.long q1), .second, .val (.int p2), .val (.int p3), .val (.int p4), .val (.long q5), .second, .val (.long j1_0), .second, .val (.int j2_0), .val (.int j3_0), .val (.ref b4), .unset] [(.int ((q5.toInt32).toInt16.toInt32)), (.long j1_0), (.long q5), (.long q5), (.int (q5.toInt32)), (.int j3_0), (.long q5), (.int (q5.toInt32)), (.long q5), (.long q5), (.ref b4)]))
        refine Goes.pre (fun t kt => XS.iload X5.here hx rfl (hb hby at_104) rfl kt) ?_
        show Goes p e below s _ _ _ (T5.setTop (mkF m 106 #[.val (.long q1), .second, .val (.int p2), .val (.int p3), .val (.int p4), .val (.long q5), .second, .val (.long j1_0), .second, .val (.int j2_0), .val (.int j3_0), .val (.ref b4), .unset] [(.int j2_0), (.int ((q5.toInt32).toInt16.toInt32)), (.long j1_0), (.long q5), (.long q5), (.int (q5.toInt32)), (.int j3_0), (.long q5), (.int (q5.toInt32)), (.long q5), (.long q5), (.ref b4)]))
        refine Goes.pre (fun t kt => XS.lload X5.here hx rfl (hb hby at_106) rfl kt) ?_
        show Goes p e below s _ _ _ (T5.setTop (mkF m 108 #[.val (.long q1), .second, .val (.int p2), .val (.int p3), .val (.int p4), .val (.long q5), .second, .val (.long j1_0), .second, .val (.int j2_0), .val (.int j3_0), .val (.ref b4), .unset] [(.long q5), (.int j2_0), (.int ((q5.toInt32).toInt16.toInt32)), (.long j1_0), (.long q5), (.long q5), (.int (q5.toInt32)), (.int j3_0), (.long q5), (.int (q5.toInt32)), (.long q5), (.long q5), (.ref b4)]))
        refine Goes.pre (fun t kt => XS.l2i X5.here hx rfl (hb hby at_108) rfl kt) ?_
        show Goes p e below s _ _ _ (T5.setTop (mkF m 109 #[.val (.long q1), .second, .val (.int p2), .val (.int p3), .val (.int p4), .val (.long q5), .second, .val (.long j1_0), .second, .val (.int j2_0), .val (.int j3_0), .val (.ref b4), .unset] [(.int (q5.toInt32)), (.int j2_0), (.int ((q5.toInt32).toInt16.toInt32)), (.long j1_0), (.long q5), (.long q5), (.int (q5.toInt32)), (.int j3_0), (.long q5), (.int (q5.toInt32)), (.long q5), (.long q5), (.ref b4)]))
        obtain ⟨cq7, kq7, qa7, qb7, qc7⟩ := isOf hZ eq5 A4
        obtain ⟨_, _, ⟨T6, L6, k6, n6⟩, -, X6, ⟨Lc6, hQ6, l6, y6, z6⟩, st6⟩ := X5.virtualBack hx (y := (⟨"com/example/seqlint/seqlint/kafka/Batch", "set", "(JJIJSIJJJSII)V"⟩ : MethodName)) (z := (⟨"com/example/seqlint/seqlint/kafka/Batch", "set", "(JJIJSIJJJSII)V"⟩ : MethodName)) hown (mvT hZ (hw _ (List.mem_of_getElem? (i := 9) rfl))) (mvT hZ (hw _ (List.mem_of_getElem? (i := 10) rfl))) (notFace_of_selects (args := #[]) (mvT hZ (hw _ (List.mem_of_getElem? (i := 12) rfl)))) (mvT hZ (hw _ (List.mem_of_getElem? (i := 12) rfl))) (mvT hZ (hw _ (List.mem_of_getElem? (i := 11) rfl))) (by decide) (backOf (W := 0) (rm3 l Z a0 hw [] b4 q5 q5 (q5.toInt32) q5 j3_0 (q5.toInt32) q5 q5 j1_0 ((q5.toInt32).toInt16.toInt32) j2_0 (q5.toInt32) (.long (0 : Int64)) (.long (0 : Int64)) (.int (0 : Int32)) (.long (0 : Int64)) (.long (0 : Int64)) (.int (0 : Int32)) (.int (0 : Int32)) (.long (0 : Int64)) (.long (0 : Int64)) (.long (0 : Int64)) (.int (0 : Int32)) (.int (0 : Int32)) (.int (0 : Int32)) .null h4 n0 Z4 A4 gg4 Fn4_15 Fn4_17 Fn4_19 Fn4_21 Fn4_24 Fn4_26 Fn4_28 Fn4_30 Fn4_32 Fn4_34 Fn4_36 Fn4_38 Fn4_40 Fn4_42) hZ (hw _ (List.mem_of_getElem? (i := 13) rfl)) (hw _ (List.mem_of_getElem? (i := 2) rfl)) (by decide) (by decide)) qa7 qc7 (g := (mkF m 109 #[.val (.long q1), .second, .val (.int p2), .val (.int p3), .val (.int p4), .val (.long q5), .second, .val (.long j1_0), .second, .val (.int j2_0), .val (.int j3_0), .val (.ref b4), .unset] [(.int (q5.toInt32)), (.int j2_0), (.int ((q5.toInt32).toInt16.toInt32)), (.long j1_0), (.long q5), (.long q5), (.int (q5.toInt32)), (.int j3_0), (.long q5), (.int (q5.toInt32)), (.long q5), (.long q5), (.ref b4)])) rfl (by rw [hml]; rfl) (Steps.refl _) (argsL := [(.long q5), (.long q5), (.int (q5.toInt32)), (.long q5), (.int j3_0), (.int (q5.toInt32)), (.long q5), (.long q5), (.long j1_0), (.int ((q5.toInt32).toInt16.toInt32)), (.int j2_0), (.int (q5.toInt32))]) (rest := []) (lenOf pd_3 rfl) rfl (by show 2 * 0 + _ ≤ _; exact Nat.le_of_eq rfl) (hb hby at_109) (fun _ _ => ⟨rfl, eq5, (by decide : 1 + 0 ≤ _), (by decide : 14 + 0 ≤ _)⟩)
        dsimp only [Pt.U, Pt.locs, Pt.cells, Pt.slots] at X6 l6 y6 z6 st6 hQ6
        subst l6 y6 z6
        obtain ⟨rfl, Nq6, Kq6, pq6_0, pq6_1, pq6_2, pq6_3, pq6_4, pq6_5, pq6_6, pq6_7, pq6_8, pq6_9, pq6_10, pq6_11, pq6_12, pq6_13⟩ := hQ6
        refine Goes.run st6 ?_
        have N6 := Fr.app N5 Nq6
        obtain ⟨h6, e6⟩ : ∃ z, T6.heap = z := ⟨_, rfl⟩
        rw [e6] at Kq6 pq6_0 pq6_1 pq6_2 pq6_3 pq6_4 pq6_5 pq6_6 pq6_7 pq6_8 pq6_9 pq6_10 pq6_11 pq6_12 pq6_13
        have Z6 : n0 ≤ h6.size := Nat.le_trans Z4 Kq6.1
        show Goes p e below s _ _ _ (T6.setTop (mkF m 112 #[.val (.long q1), .second, .val (.int p2), .val (.int p3), .val (.int p4), .val (.long q5), .second, .val (.long j1_0), .second, .val (.int j2_0), .val (.int j3_0), .val (.ref b4), .unset] []))
        refine Goes.pre (fun t kt => XS.iload X6.here hx rfl (hb hby at_112) rfl kt) ?_
        show Goes p e below s _ _ _ (T6.setTop (mkF m 114 #[.val (.long q1), .second, .val (.int p2), .val (.int p3), .val (.int p4), .val (.long q5), .second, .val (.long j1_0), .second, .val (.int j2_0), .val (.int j3_0), .val (.ref b4), .unset] [(.int p4)]))
        refine Goes.pre (fun t kt => XS.bipush X6.here hx rfl (hb hby at_114) kt) ?_
        show Goes p e below s _ _ _ (T6.setTop (mkF m 116 #[.val (.long q1), .second, .val (.int p2), .val (.int p3), .val (.int p4), .val (.long q5), .second, .val (.long j1_0), .second, .val (.int j2_0), .val (.int j3_0), .val (.ref b4), .unset] [(.int (8 : Int32)), (.int p4)]))
        refine Goes.pre (fun t kt => XS.iand X6.here hx rfl (hb hby at_116) rfl kt) ?_
        show Goes p e below s _ _ _ (T6.setTop (mkF m 117 #[.val (.long q1), .second, .val (.int p2), .val (.int p3), .val (.int p4), .val (.long q5), .second, .val (.long j1_0), .second, .val (.int j2_0), .val (.int j3_0), .val (.ref b4), .unset] [(.int (p4 &&& (8 : Int32)))]))
        by_cases hc117 : (p4 &&& (8 : Int32)) = (0 : Int32)
        · refine Goes.pre (fun t kt => XS.ifYes X6.here hx rfl (pc0 := 117) (pc' := 128) rfl (hb hby at_117) rfl (Jvm.Free.XT.i0_eq_t (hc117)) (by decide) (by decide) kt) ?_
          show Goes p e below s _ _ _ (T6.setTop (mkF m 128 #[.val (.long q1), .second, .val (.int p2), .val (.int p3), .val (.int p4), .val (.long q5), .second, .val (.long j1_0), .second, .val (.int j2_0), .val (.int j3_0), .val (.ref b4), .unset] []))
          refine Goes.pre (fun t kt => XS.lload X6.here hx rfl (hb hby at_128) rfl kt) ?_
          show Goes p e below s _ _ _ (T6.setTop (mkF m 130 #[.val (.long q1), .second, .val (.int p2), .val (.int p3), .val (.int p4), .val (.long q5), .second, .val (.long j1_0), .second, .val (.int j2_0), .val (.int j3_0), .val (.ref b4), .unset] [(.long j1_0)]))
          refine Goes.pre (fun t kt => XS.iload X6.here hx rfl (hb hby at_130) rfl kt) ?_
          show Goes p e below s _ _ _ (T6.setTop (mkF m 132 #[.val (.long q1), .second, .val (.int p2), .val (.int p3), .val (.int p4), .val (.long q5), .second, .val (.long j1_0), .second, .val (.int j2_0), .val (.int j3_0), .val (.ref b4), .unset] [(.int j2_0), (.long j1_0)]))
          refine Goes.pre (fun t kt => XS.iload X6.here hx rfl (hb hby at_132) rfl kt) ?_
          show Goes p e below s _ _ _ (T6.setTop (mkF m 134 #[.val (.long q1), .second, .val (.int p2), .val (.int p3), .val (.int p4), .val (.long q5), .second, .val (.long j1_0), .second, .val (.int j2_0), .val (.int j3_0), .val (.ref b4), .unset] [(.int j3_0), (.int j2_0), (.long j1_0)]))
          obtain ⟨_, _, ⟨T8, L8, k8, n8⟩, -, X8, ⟨Lc8, hQ8, l8, y8, z8⟩, st8⟩ := Jvm.LawKit.callS X6 hx (y := (⟨"com/example/seqlint/seqlint/kafka/BatchIsSequencedPinLaw", "reference", "(JIS)Z"⟩ : MethodName)) hown (mvT hZ (hw _ (List.mem_of_getElem? (i := 43) rfl))) (mvT hZ (hw _ (List.mem_of_getElem? (i := 44) rfl))) (mvT hZ (hw _ (List.mem_of_getElem? (i := 45) rfl))) (mvT hZ (hw _ (List.mem_of_getElem? (i := 46) rfl))) (by decide) (backOf (W := 0) (rm4 l Z a0 hw [] j1_0 j2_0 j3_0 h6 n0 Z6 ) hZ (hw _ (List.mem_of_getElem? (i := 46) rfl)) (hw _ (List.mem_of_getElem? (i := 45) rfl)) (by decide) (by decide)) (g := (mkF m 134 #[.val (.long q1), .second, .val (.int p2), .val (.int p3), .val (.int p4), .val (.long q5), .second, .val (.long j1_0), .second, .val (.int j2_0), .val (.int j3_0), .val (.ref b4), .unset] [(.int j3_0), (.int j2_0), (.long j1_0)])) rfl (by rw [hml]; rfl) (argsL := [(.long j1_0), (.int j2_0), (.int j3_0)]) (rest := []) (lenOf pd_4 rfl) rfl (by show 2 * 0 + _ ≤ _; exact Nat.le_of_eq rfl) (hb hby at_134) (fun _ _ => ⟨rfl, e6, (by decide : 1 + 0 ≤ _), (by decide : 14 + 0 ≤ _)⟩)
          dsimp only [Pt.U, Pt.locs, Pt.cells, Pt.slots] at X8 l8 y8 z8 st8 hQ8
          subst l8 y8 z8
          obtain ⟨rfl, Nq8, eq8⟩ := hQ8
          refine Goes.pre st8 ?_
          have N8 := Fr.app N6 Nq8
          show Goes p e below s _ _ _ (T8.setTop (mkF m 137 #[.val (.long q1), .second, .val (.int p2), .val (.int p3), .val (.int p4), .val (.long q5), .second, .val (.long j1_0), .second, .val (.int j2_0), .val (.int j3_0), .val (.ref b4), .unset] [(.int (own_ref j1_0 j2_0 j3_0))]))
          refine Goes.pre (fun t kt => XS.istore X8.here hx rfl (hb hby at_137) rfl (l' := #[.val (.long q1), .second, .val (.int p2), .val (.int p3), .val (.int p4), .val (.long q5), .second, .val (.long j1_0), .second, .val (.int j2_0), .val (.int j3_0), .val (.ref b4), .val (.int (own_ref j1_0 j2_0 j3_0))]) rfl kt) ?_
          show Goes p e below s _ _ _ (T8.setTop (mkF m 139 #[.val (.long q1), .second, .val (.int p2), .val (.int p3), .val (.int p4), .val (.long q5), .second, .val (.long j1_0), .second, .val (.int j2_0), .val (.int j3_0), .val (.ref b4), .val (.int (own_ref j1_0 j2_0 j3_0))] []))
          refine Goes.pre (fun t kt => XS.aload X8.here hx rfl (hb hby at_139) rfl rfl kt) ?_
          show Goes p e below s _ _ _ (T8.setTop (mkF m 141 #[.val (.long q1), .second, .val (.int p2), .val (.int p3), .val (.int p4), .val (.long q5), .second, .val (.long j1_0), .second, .val (.int j2_0), .val (.int j3_0), .val (.ref b4), .val (.int (own_ref j1_0 j2_0 j3_0))] [(.ref b4)]))
          have fc11 : Exa Z h6 b4 "com/example/seqlint/seqlint/kafka/Batch" := (A4.keep Kq6)
          obtain ⟨cq10, kq10, qa10, qb10, qc10⟩ := isOf hZ eq8 fc11
          obtain ⟨_, _, ⟨T9, L9, k9, n9⟩, -, X9, ⟨Lc9, hQ9, l9, y9, z9⟩, st9⟩ := X8.virtualBack hx (y := (⟨"com/example/seqlint/seqlint/kafka/Batch", "isSequenced", "()Z"⟩ : MethodName)) (z := (⟨"com/example/seqlint/seqlint/kafka/Batch", "isSequenced", "()Z"⟩ : MethodName)) hown (mvT hZ (hw _ (List.mem_of_getElem? (i := 48) rfl))) (mvT hZ (hw _ (List.mem_of_getElem? (i := 49) rfl))) (notFace_of_selects (args := #[]) (mvT hZ (hw _ (List.mem_of_getElem? (i := 51) rfl)))) (mvT hZ (hw _ (List.mem_of_getElem? (i := 51) rfl))) (mvT hZ (hw _ (List.mem_of_getElem? (i := 50) rfl))) (by decide) (backOf (W := 0) (rm5 l Z a0 hw [] b4 j1_0 j2_0 (j3_0.toInt16.toInt32) h6 n0 Z6 pq6_9 pq6_11 pq6_5) hZ (hw _ (List.mem_of_getElem? (i := 52) rfl)) (hw _ (List.mem_of_getElem? (i := 2) rfl)) (by decide) (by decide)) qa10 qc10 (g := (mkF m 141 #[.val (.long q1), .second, .val (.int p2), .val (.int p3), .val (.int p4), .val (.long q5), .second, .val (.long j1_0), .second, .val (.int j2_0), .val (.int j3_0), .val (.ref b4), .val (.int (own_ref j1_0 j2_0 j3_0))] [(.ref b4)])) rfl (by rw [hml]; rfl) (Steps.refl _) (argsL := []) (rest := []) (lenOf pd_5 rfl) rfl (by show 2 * 0 + _ ≤ _; exact Nat.le_of_eq rfl) (hb hby at_141) (fun _ _ => ⟨rfl, eq8, (by decide : 1 + 0 ≤ _), (by decide : 14 + 0 ≤ _)⟩)
          dsimp only [Pt.U, Pt.locs, Pt.cells, Pt.slots] at X9 l9 y9 z9 st9 hQ9
          subst l9 y9 z9
          obtain ⟨rfl, Nq9, eq9⟩ := hQ9
          refine Goes.run st9 ?_
          have N9 := Fr.app N8 Nq9
          show Goes p e below s _ _ _ (T9.setTop (mkF m 144 #[.val (.long q1), .second, .val (.int p2), .val (.int p3), .val (.int p4), .val (.long q5), .second, .val (.long j1_0), .second, .val (.int j2_0), .val (.int j3_0), .val (.ref b4), .val (.int (own_ref j1_0 j2_0 j3_0))] [(.int (own_seq j1_0 j2_0 (j3_0.toInt16.toInt32)))]))
          refine Goes.pre (fun t kt => XS.iload X9.here hx rfl (hb hby at_144) rfl kt) ?_
          show Goes p e below s _ _ _ (T9.setTop (mkF m 146 #[.val (.long q1), .second, .val (.int p2), .val (.int p3), .val (.int p4), .val (.long q5), .second, .val (.long j1_0), .second, .val (.int j2_0), .val (.int j3_0), .val (.ref b4), .val (.int (own_ref j1_0 j2_0 j3_0))] [(.int (own_ref j1_0 j2_0 j3_0)), (.int (own_seq j1_0 j2_0 (j3_0.toInt16.toInt32)))]))
          refine Goes.pre (fun t kt => XS.icmpNo X9.here hx rfl (hb hby at_146) rfl (Jvm.Free.XT.ii_ne_f ((by rw [hs]; exact own_same _ _ _))) kt) ?_
          show Goes p e below s _ _ _ (T9.setTop (mkF m 149 #[.val (.long q1), .second, .val (.int p2), .val (.int p3), .val (.int p4), .val (.long q5), .second, .val (.long j1_0), .second, .val (.int j2_0), .val (.int j3_0), .val (.ref b4), .val (.int (own_ref j1_0 j2_0 j3_0))] []))
          refine Goes.pre (fun t kt => XS.iconst X9.here hx rfl (hb hby at_149) kt) ?_
          show Goes p e below s _ _ _ (T9.setTop (mkF m 150 #[.val (.long q1), .second, .val (.int p2), .val (.int p3), .val (.int p4), .val (.long q5), .second, .val (.long j1_0), .second, .val (.int j2_0), .val (.int j3_0), .val (.ref b4), .val (.int (own_ref j1_0 j2_0 j3_0))] [(.int (1 : Int32))]))
          refine Goes.pre (fun t kt => XS.goto X9.here hx rfl (pc0 := 150) (pc' := 154) rfl (hb hby at_150) (by decide) (by decide) kt) ?_
          show Goes p e below s _ _ _ (T9.setTop (mkF m 154 #[.val (.long q1), .second, .val (.int p2), .val (.int p3), .val (.int p4), .val (.long q5), .second, .val (.long j1_0), .second, .val (.int j2_0), .val (.int j3_0), .val (.ref b4), .val (.int (own_ref j1_0 j2_0 j3_0))] [(.int (1 : Int32))]))
          refine Goes.ret X9 (some (.int (1 : Int32))) (fun h => by rw [Bd.returns] at h; cases h) (BodyLoose.notSynchronized Bd) (by decide) (by decide) (fun fs hr => retN X9 hx (t := .boolean) Bd.returns (by simp) (hb hby at_154) hr) ?_
          show Q_rm0 Z q1 p2 p3 p4 q5 h0 n0 _ T9.heap _
          rw [eq9]
          exact ⟨rfl, N9⟩
        · refine Goes.pre (fun t kt => XS.ifNo X6.here hx rfl (hb hby at_117) rfl (Jvm.Free.XT.i0_eq_f (hc117)) kt) ?_
          show Goes p e below s _ _ _ (T6.setTop (mkF m 120 #[.val (.long q1), .second, .val (.int p2), .val (.int p3), .val (.int p4), .val (.long q5), .second, .val (.long j1_0), .second, .val (.int j2_0), .val (.int j3_0), .val (.ref b4), .unset] []))
          refine Goes.pre (fun t kt => XS.aload X6.here hx rfl (hb hby at_120) rfl rfl kt) ?_
          show Goes p e below s _ _ _ (T6.setTop (mkF m 122 #[.val (.long q1), .second, .val (.int p2), .val (.int p3), .val (.int p4), .val (.long q5), .second, .val (.long j1_0), .second, .val (.int j2_0), .val (.int j3_0), .val (.ref b4), .unset] [(.ref b4)]))
          refine Goes.pre (fun t kt => XS.lload X6.here hx rfl (hb hby at_122) rfl kt) ?_
          show Goes p e below s _ _ _ (T6.setTop (mkF m 124 #[.val (.long q1), .second, .val (.int p2), .val (.int p3), .val (.int p4), .val (.long q5), .second, .val (.long j1_0), .second, .val (.int j2_0), .val (.int j3_0), .val (.ref b4), .unset] [(.long q5), (.ref b4)]))
          refine Goes.pre (fun t kt => XS.aconstNull X6.here hx rfl (hb hby at_124) kt) ?_
          show Goes p e below s _ _ _ (T6.setTop (mkF m 125 #[.val (.long q1), .second, .val (.int p2), .val (.int p3), .val (.int p4), .val (.long q5), .second, .val (.long j1_0), .second, .val (.int j2_0), .val (.int j3_0), .val (.ref b4), .unset] [.null, (.long q5), (.ref b4)]))
          have fc12 : Exa Z h6 b4 "com/example/seqlint/seqlint/kafka/Batch" := (A4.keep Kq6)
          obtain ⟨cq14, kq14, qa14, qb14, qc14⟩ := isOf hZ e6 fc12
          obtain ⟨_, _, ⟨T13, L13, k13, n13⟩, -, X13, ⟨Lc13, hQ13, l13, y13, z13⟩, st13⟩ := X6.virtualBack hx (y := (⟨"com/example/seqlint/seqlint/kafka/Batch", "setRecordsRead", "(JLcom/example/seqlint/seqlint/kafka/Batch$Marker;)V"⟩ : MethodName)) (z := (⟨"com/example/seqlint/seqlint/kafka/Batch", "setRecordsRead", "(JLcom/example/seqlint/seqlint/kafka/Batch$Marker;)V"⟩ : MethodName)) hown (mvT hZ (hw _ (List.mem_of_getElem? (i := 53) rfl))) (mvT hZ (hw _ (List.mem_of_getElem? (i := 54) rfl))) (notFace_of_selects (args := #[]) (mvT hZ (hw _ (List.mem_of_getElem? (i := 56) rfl)))) (mvT hZ (hw _ (List.mem_of_getElem? (i := 56) rfl))) (mvT hZ (hw _ (List.mem_of_getElem? (i := 55) rfl))) (by decide) (backOf (W := 0) (rm6 l Z a0 hw [] b4 q5 (.long (-1 : Int64)) .null j1_0 j2_0 (j3_0.toInt16.toInt32) h6 n0 Z6 fc12 gg4 pq6_4 pq6_13 pq6_9 pq6_11 pq6_5) hZ (hw _ (List.mem_of_getElem? (i := 57) rfl)) (hw _ (List.mem_of_getElem? (i := 2) rfl)) (by decide) (by decide)) qa14 qc14 (g := (mkF m 125 #[.val (.long q1), .second, .val (.int p2), .val (.int p3), .val (.int p4), .val (.long q5), .second, .val (.long j1_0), .second, .val (.int j2_0), .val (.int j3_0), .val (.ref b4), .unset] [.null, (.long q5), (.ref b4)])) rfl (by rw [hml]; rfl) (Steps.refl _) (argsL := [(.long q5), .null]) (rest := []) (lenOf pd_6 rfl) rfl (by show 2 * 0 + _ ≤ _; exact Nat.le_of_eq rfl) (hb hby at_125) (fun _ _ => ⟨rfl, e6, (by decide : 1 + 0 ≤ _), (by decide : 14 + 0 ≤ _)⟩)
          dsimp only [Pt.U, Pt.locs, Pt.cells, Pt.slots] at X13 l13 y13 z13 st13 hQ13
          subst l13 y13 z13
          obtain ⟨rfl, Nq13, Kq13, pq13_0, pq13_1, pq13_2⟩ := hQ13
          refine Goes.run st13 ?_
          have N13 := Fr.app N6 Nq13
          obtain ⟨h13, e13⟩ : ∃ z, T13.heap = z := ⟨_, rfl⟩
          rw [e13] at Kq13 pq13_0 pq13_1 pq13_2
          have Z13 : n0 ≤ h13.size := Nat.le_trans Z6 Kq13.1
          show Goes p e below s _ _ _ (T13.setTop (mkF m 128 #[.val (.long q1), .second, .val (.int p2), .val (.int p3), .val (.int p4), .val (.long q5), .second, .val (.long j1_0), .second, .val (.int j2_0), .val (.int j3_0), .val (.ref b4), .unset] []))
          refine Goes.pre (fun t kt => XS.lload X13.here hx rfl (hb hby at_128) rfl kt) ?_
          show Goes p e below s _ _ _ (T13.setTop (mkF m 130 #[.val (.long q1), .second, .val (.int p2), .val (.int p3), .val (.int p4), .val (.long q5), .second, .val (.long j1_0), .second, .val (.int j2_0), .val (.int j3_0), .val (.ref b4), .unset] [(.long j1_0)]))
          refine Goes.pre (fun t kt => XS.iload X13.here hx rfl (hb hby at_130) rfl kt) ?_
          show Goes p e below s _ _ _ (T13.setTop (mkF m 132 #[.val (.long q1), .second, .val (.int p2), .val (.int p3), .val (.int p4), .val (.long q5), .second, .val (.long j1_0), .second, .val (.int j2_0), .val (.int j3_0), .val (.ref b4), .unset] [(.int j2_0), (.long j1_0)]))
          refine Goes.pre (fun t kt => XS.iload X13.here hx rfl (hb hby at_132) rfl kt) ?_
          show Goes p e below s _ _ _ (T13.setTop (mkF m 134 #[.val (.long q1), .second, .val (.int p2), .val (.int p3), .val (.int p4), .val (.long q5), .second, .val (.long j1_0), .second, .val (.int j2_0), .val (.int j3_0), .val (.ref b4), .unset] [(.int j3_0), (.int j2_0), (.long j1_0)]))
          obtain ⟨_, _, ⟨T15, L15, k15, n15⟩, -, X15, ⟨Lc15, hQ15, l15, y15, z15⟩, st15⟩ := Jvm.LawKit.callS X13 hx (y := (⟨"com/example/seqlint/seqlint/kafka/BatchIsSequencedPinLaw", "reference", "(JIS)Z"⟩ : MethodName)) hown (mvT hZ (hw _ (List.mem_of_getElem? (i := 43) rfl))) (mvT hZ (hw _ (List.mem_of_getElem? (i := 44) rfl))) (mvT hZ (hw _ (List.mem_of_getElem? (i := 45) rfl))) (mvT hZ (hw _ (List.mem_of_getElem? (i := 46) rfl))) (by decide) (backOf (W := 0) (rm4 l Z a0 hw [] j1_0 j2_0 j3_0 h13 n0 Z13 ) hZ (hw _ (List.mem_of_getElem? (i := 46) rfl)) (hw _ (List.mem_of_getElem? (i := 45) rfl)) (by decide) (by decide)) (g := (mkF m 134 #[.val (.long q1), .second, .val (.int p2), .val (.int p3), .val (.int p4), .val (.long q5), .second, .val (.long j1_0), .second, .val (.int j2_0), .val (.int j3_0), .val (.ref b4), .unset] [(.int j3_0), (.int j2_0), (.long j1_0)])) rfl (by rw [hml]; rfl) (argsL := [(.long j1_0), (.int j2_0), (.int j3_0)]) (rest := []) (lenOf pd_4 rfl) rfl (by show 2 * 0 + _ ≤ _; exact Nat.le_of_eq rfl) (hb hby at_134) (fun _ _ => ⟨rfl, e13, (by decide : 1 + 0 ≤ _), (by decide : 14 + 0 ≤ _)⟩)
          dsimp only [Pt.U, Pt.locs, Pt.cells, Pt.slots] at X15 l15 y15 z15 st15 hQ15
          subst l15 y15 z15
          obtain ⟨rfl, Nq15, eq15⟩ := hQ15
          refine Goes.pre st15 ?_
          have N15 := Fr.app N13 Nq15
          show Goes p e below s _ _ _ (T15.setTop (mkF m 137 #[.val (.long q1), .second, .val (.int p2), .val (.int p3), .val (.int p4), .val (.long q5), .second, .val (.long j1_0), .second, .val (.int j2_0), .val (.int j3_0), .val (.ref b4), .unset] [(.int (own_ref j1_0 j2_0 j3_0))]))
          refine Goes.pre (fun t kt => XS.istore X15.here hx rfl (hb hby at_137) rfl (l' := #[.val (.long q1), .second, .val (.int p2), .val (.int p3), .val (.int p4), .val (.long q5), .second, .val (.long j1_0), .second, .val (.int j2_0), .val (.int j3_0), .val (.ref b4), .val (.int (own_ref j1_0 j2_0 j3_0))]) rfl kt) ?_
          show Goes p e below s _ _ _ (T15.setTop (mkF m 139 #[.val (.long q1), .second, .val (.int p2), .val (.int p3), .val (.int p4), .val (.long q5), .second, .val (.long j1_0), .second, .val (.int j2_0), .val (.int j3_0), .val (.ref b4), .val (.int (own_ref j1_0 j2_0 j3_0))] []))
          refine Goes.pre (fun t kt => XS.aload X15.here hx rfl (hb hby at_139) rfl rfl kt) ?_
          show Goes p e below s _ _ _ (T15.setTop (mkF m 141 #[.val (.long q1), .second, .val (.int p2), .val (.int p3), .val (.int p4), .val (.long q5), .second, .val (.long j1_0), .second, .val (.int j2_0), .val (.int j3_0), .val (.ref b4), .val (.int (own_ref j1_0 j2_0 j3_0))] [(.ref b4)]))
          have fc18 : Exa Z h13 b4 "com/example/seqlint/seqlint/kafka/Batch" := (fc12.keep Kq13)
          obtain ⟨cq17, kq17, qa17, qb17, qc17⟩ := isOf hZ eq15 fc18
          obtain ⟨_, _, ⟨T16, L16, k16, n16⟩, -, X16, ⟨Lc16, hQ16, l16, y16, z16⟩, st16⟩ := X15.virtualBack hx (y := (⟨"com/example/seqlint/seqlint/kafka/Batch", "isSequenced", "()Z"⟩ : MethodName)) (z := (⟨"com/example/seqlint/seqlint/kafka/Batch", "isSequenced", "()Z"⟩ : MethodName)) hown (mvT hZ (hw _ (List.mem_of_getElem? (i := 48) rfl))) (mvT hZ (hw _ (List.mem_of_getElem? (i := 49) rfl))) (notFace_of_selects (args := #[]) (mvT hZ (hw _ (List.mem_of_getElem? (i := 51) rfl)))) (mvT hZ (hw _ (List.mem_of_getElem? (i := 51) rfl))) (mvT hZ (hw _ (List.mem_of_getElem? (i := 50) rfl))) (by decide) (backOf (W := 0) (rm5 l Z a0 hw [] b4 j1_0 j2_0 (j3_0.toInt16.toInt32) h13 n0 Z13 pq13_0 pq13_1 pq13_2) hZ (hw _ (List.mem_of_getElem? (i := 52) rfl)) (hw _ (List.mem_of_getElem? (i := 2) rfl)) (by decide) (by decide)) qa17 qc17 (g := (mkF m 141 #[.val (.long q1), .second, .val (.int p2), .val (.int p3), .val (.int p4), .val (.long q5), .second, .val (.long j1_0), .second, .val (.int j2_0), .val (.int j3_0), .val (.ref b4), .val (.int (own_ref j1_0 j2_0 j3_0))] [(.ref b4)])) rfl (by rw [hml]; rfl) (Steps.refl _) (argsL := []) (rest := []) (lenOf pd_5 rfl) rfl (by show 2 * 0 + _ ≤ _; exact Nat.le_of_eq rfl) (hb hby at_141) (fun _ _ => ⟨rfl, eq15, (by decide : 1 + 0 ≤ _), (by decide : 14 + 0 ≤ _)⟩)
          dsimp only [Pt.U, Pt.locs, Pt.cells, Pt.slots] at X16 l16 y16 z16 st16 hQ16
          subst l16 y16 z16
          obtain ⟨rfl, Nq16, eq16⟩ := hQ16
          refine Goes.run st16 ?_
          have N16 := Fr.app N15 Nq16
          show Goes p e below s _ _ _ (T16.setTop (mkF m 144 #[.val (.long q1), .second, .val (.int p2), .val (.int p3), .val (.int p4), .val (.long q5), .second, .val (.long j1_0), .second, .val (.int j2_0), .val (.int j3_0), .val (.ref b4), .val (.int (own_ref j1_0 j2_0 j3_0))] [(.int (own_seq j1_0 j2_0 (j3_0.toInt16.toInt32)))]))
          refine Goes.pre (fun t kt => XS.iload X16.here hx rfl (hb hby at_144) rfl kt) ?_
          show Goes p e below s _ _ _ (T16.setTop (mkF m 146 #[.val (.long q1), .second, .val (.int p2), .val (.int p3), .val (.int p4), .val (.long q5), .second, .val (.long j1_0), .second, .val (.int j2_0), .val (.int j3_0), .val (.ref b4), .val (.int (own_ref j1_0 j2_0 j3_0))] [(.int (own_ref j1_0 j2_0 j3_0)), (.int (own_seq j1_0 j2_0 (j3_0.toInt16.toInt32)))]))
          refine Goes.pre (fun t kt => XS.icmpNo X16.here hx rfl (hb hby at_146) rfl (Jvm.Free.XT.ii_ne_f ((by rw [hs]; exact own_same _ _ _))) kt) ?_
          show Goes p e below s _ _ _ (T16.setTop (mkF m 149 #[.val (.long q1), .second, .val (.int p2), .val (.int p3), .val (.int p4), .val (.long q5), .second, .val (.long j1_0), .second, .val (.int j2_0), .val (.int j3_0), .val (.ref b4), .val (.int (own_ref j1_0 j2_0 j3_0))] []))
          refine Goes.pre (fun t kt => XS.iconst X16.here hx rfl (hb hby at_149) kt) ?_
          show Goes p e below s _ _ _ (T16.setTop (mkF m 150 #[.val (.long q1), .second, .val (.int p2), .val (.int p3), .val (.int p4), .val (.long q5), .second, .val (.long j1_0), .second, .val (.int j2_0), .val (.int j3_0), .val (.ref b4), .val (.int (own_ref j1_0 j2_0 j3_0))] [(.int (1 : Int32))]))
          refine Goes.pre (fun t kt => XS.goto X16.here hx rfl (pc0 := 150) (pc' := 154) rfl (hb hby at_150) (by decide) (by decide) kt) ?_
          show Goes p e below s _ _ _ (T16.setTop (mkF m 154 #[.val (.long q1), .second, .val (.int p2), .val (.int p3), .val (.int p4), .val (.long q5), .second, .val (.long j1_0), .second, .val (.int j2_0), .val (.int j3_0), .val (.ref b4), .val (.int (own_ref j1_0 j2_0 j3_0))] [(.int (1 : Int32))]))
          refine Goes.ret X16 (some (.int (1 : Int32))) (fun h => by rw [Bd.returns] at h; cases h) (BodyLoose.notSynchronized Bd) (by decide) (by decide) (fun fs hr => retN X16 hx (t := .boolean) Bd.returns (by simp) (hb hby at_154) hr) ?_
          show Q_rm0 Z q1 p2 p3 p4 q5 h0 n0 _ T16.heap _
          rw [eq16]
          exact ⟨rfl, N16⟩
      by_cases hc34 : (p4 &&& (4 : Int32)) = (0 : Int32)
      · refine Goes.pre (fun t kt => XS.ifYes X0.here hx rfl (pc0 := 34) (pc' := 47) rfl (hb hby at_34) rfl (Jvm.Free.XT.i0_eq_t (hc34)) (by decide) (by decide) kt) ?_
        show Goes p e below s _ _ _ (s₁.setTop (mkF m 47 #[.val (.long q1), .second, .val (.int p2), .val (.int p3), .val (.int p4), .val (.long q5), .second, .val (.long j1_0), .second, .val (.int j2_0), .unset, .unset, .unset] []))
        refine Goes.pre (fun t kt => XS.iload X0.here hx rfl (hb hby at_47) rfl kt) ?_
        show Goes p e below s _ _ _ (s₁.setTop (mkF m 49 #[.val (.long q1), .second, .val (.int p2), .val (.int p3), .val (.int p4), .val (.long q5), .second, .val (.long j1_0), .second, .val (.int j2_0), .unset, .unset, .unset] [(.int p4)]))
        refine Goes.pre (fun t kt => XS.bipush X0.here hx rfl (hb hby at_49) kt) ?_
        show Goes p e below s _ _ _ (s₁.setTop (mkF m 51 #[.val (.long q1), .second, .val (.int p2), .val (.int p3), .val (.int p4), .val (.long q5), .second, .val (.long j1_0), .second, .val (.int j2_0), .unset, .unset, .unset] [(.int (16 : Int32)), (.int p4)]))
        refine Goes.pre (fun t kt => XS.iand X0.here hx rfl (hb hby at_51) rfl kt) ?_
        show Goes p e below s _ _ _ (s₁.setTop (mkF m 52 #[.val (.long q1), .second, .val (.int p2), .val (.int p3), .val (.int p4), .val (.long q5), .second, .val (.long j1_0), .second, .val (.int j2_0), .unset, .unset, .unset] [(.int (p4 &&& (16 : Int32)))]))
        by_cases hc52 : (p4 &&& (16 : Int32)) = (0 : Int32)
        · refine Goes.pre (fun t kt => XS.ifYes X0.here hx rfl (pc0 := 52) (pc' := 65) rfl (hb hby at_52) rfl (Jvm.Free.XT.i0_eq_t (hc52)) (by decide) (by decide) kt) ?_
          show Goes p e below s _ _ _ (s₁.setTop (mkF m 65 #[.val (.long q1), .second, .val (.int p2), .val (.int p3), .val (.int p4), .val (.long q5), .second, .val (.long j1_0), .second, .val (.int j2_0), .unset, .unset, .unset] []))
          refine Goes.pre (fun t kt => XS.iloadN X0.here hx rfl (hb hby at_65) rfl kt) ?_
          show Goes p e below s _ _ _ (s₁.setTop (mkF m 66 #[.val (.long q1), .second, .val (.int p2), .val (.int p3), .val (.int p4), .val (.long q5), .second, .val (.long j1_0), .second, .val (.int j2_0), .unset, .unset, .unset] [(.int p3)]))
          refine Goes.pre (fun t kt => XS.i2s X0.here hx rfl (hb hby at_66) rfl kt) ?_
          show Goes p e below s _ _ _ (s₁.setTop (mkF m 67 #[.val (.long q1), .second, .val (.int p2), .val (.int p3), .val (.int p4), .val (.long q5), .second, .val (.long j1_0), .second, .val (.int j2_0), .unset, .unset, .unset] [(.int (p3.toInt16.toInt32))]))
          refine Goes.pre (fun t kt => XS.istore X0.here hx rfl (hb hby at_67) rfl (l' := #[.val (.long q1), .second, .val (.int p2), .val (.int p3), .val (.int p4), .val (.long q5), .second, .val (.long j1_0), .second, .val (.int j2_0), .val (.int (p3.toInt16.toInt32)), .unset, .unset]) rfl kt) ?_
          show Goes p e below s _ _ _ (s₁.setTop (mkF m 69 #[.val (.long q1), .second, .val (.int p2), .val (.int p3), .val (.int p4), .val (.long q5), .second, .val (.long j1_0), .second, .val (.int j2_0), .val (.int (p3.toInt16.toInt32)), .unset, .unset] []))
          exact J3 ((p3.toInt16.toInt32)) (own_short _)
        · refine Goes.pre (fun t kt => XS.ifNo X0.here hx rfl (hb hby at_52) rfl (Jvm.Free.XT.i0_eq_f (hc52)) kt) ?_
          show Goes p e below s _ _ _ (s₁.setTop (mkF m 55 #[.val (.long q1), .second, .val (.int p2), .val (.int p3), .val (.int p4), .val (.long q5), .second, .val (.long j1_0), .second, .val (.int j2_0), .unset, .unset, .unset] []))
          refine Goes.pre (fun t kt => XS.iloadN X0.here hx rfl (hb hby at_55) rfl kt) ?_
          show Goes p e below s _ _ _ (s₁.setTop (mkF m 56 #[.val (.long q1), .second, .val (.int p2), .val (.int p3), .val (.int p4), .val (.long q5), .second, .val (.long j1_0), .second, .val (.int j2_0), .unset, .unset, .unset] [(.int p3)]))
          refine Goes.pre (fun t kt => XS.bipush X0.here hx rfl (hb hby at_56) kt) ?_
          show Goes p e below s _ _ _ (s₁.setTop (mkF m 58 #[.val (.long q1), .second, .val (.int p2), .val (.int p3), .val (.int p4), .val (.long q5), .second, .val (.long j1_0), .second, .val (.int j2_0), .unset, .unset, .unset] [(.int (-33 : Int32)), (.int p3)]))
          refine Goes.pre (fun t kt => XS.iand X0.here hx rfl (hb hby at_58) rfl kt) ?_
          show Goes p e below s _ _ _ (s₁.setTop (mkF m 59 #[.val (.long q1), .second, .val (.int p2), .val (.int p3), .val (.int p4), .val (.long q5), .second, .val (.long j1_0), .second, .val (.int j2_0), .unset, .unset, .unset] [(.int (p3 &&& (-33 : Int32)))]))
          refine Goes.pre (fun t kt => XS.i2s X0.here hx rfl (hb hby at_59) rfl kt) ?_
          show Goes p e below s _ _ _ (s₁.setTop (mkF m 60 #[.val (.long q1), .second, .val (.int p2), .val (.int p3), .val (.int p4), .val (.long q5), .second, .val (.long j1_0), .second, .val (.int j2_0), .unset, .unset, .unset] [(.int ((p3 &&& (-33 : Int32)).toInt16.toInt32))]))
          refine Goes.pre (fun t kt => XS.istore X0.here hx rfl (hb hby at_60) rfl (l' := #[.val (.long q1), .second, .val (.int p2), .val (.int p3), .val (.int p4), .val (.long q5), .second, .val (.long j1_0), .second, .val (.int j2_0), .val (.int ((p3 &&& (-33 : Int32)).toInt16.toInt32)), .unset, .unset]) rfl kt) ?_
          show Goes p e below s _ _ _ (s₁.setTop (mkF m 62 #[.val (.long q1), .second, .val (.int p2), .val (.int p3), .val (.int p4), .val (.long q5), .second, .val (.long j1_0), .second, .val (.int j2_0), .val (.int ((p3 &&& (-33 : Int32)).toInt16.toInt32)), .unset, .unset] []))
          refine Goes.pre (fun t kt => XS.goto X0.here hx rfl (pc0 := 62) (pc' := 69) rfl (hb hby at_62) (by decide) (by decide) kt) ?_
          show Goes p e below s _ _ _ (s₁.setTop (mkF m 69 #[.val (.long q1), .second, .val (.int p2), .val (.int p3), .val (.int p4), .val (.long q5), .second, .val (.long j1_0), .second, .val (.int j2_0), .val (.int ((p3 &&& (-33 : Int32)).toInt16.toInt32)), .unset, .unset] []))
          exact J3 (((p3 &&& (-33 : Int32)).toInt16.toInt32)) (own_short _)
      · refine Goes.pre (fun t kt => XS.ifNo X0.here hx rfl (hb hby at_34) rfl (Jvm.Free.XT.i0_eq_f (hc34)) kt) ?_
        show Goes p e below s _ _ _ (s₁.setTop (mkF m 37 #[.val (.long q1), .second, .val (.int p2), .val (.int p3), .val (.int p4), .val (.long q5), .second, .val (.long j1_0), .second, .val (.int j2_0), .unset, .unset, .unset] []))
        refine Goes.pre (fun t kt => XS.iloadN X0.here hx rfl (hb hby at_37) rfl kt) ?_
        show Goes p e below s _ _ _ (s₁.setTop (mkF m 38 #[.val (.long q1), .second, .val (.int p2), .val (.int p3), .val (.int p4), .val (.long q5), .second, .val (.long j1_0), .second, .val (.int j2_0), .unset, .unset, .unset] [(.int p3)]))
        refine Goes.pre (fun t kt => XS.bipush X0.here hx rfl (hb hby at_38) kt) ?_
        show Goes p e below s _ _ _ (s₁.setTop (mkF m 40 #[.val (.long q1), .second, .val (.int p2), .val (.int p3), .val (.int p4), .val (.long q5), .second, .val (.long j1_0), .second, .val (.int j2_0), .unset, .unset, .unset] [(.int (32 : Int32)), (.int p3)]))
        refine Goes.pre (fun t kt => XS.ior X0.here hx rfl (hb hby at_40) rfl kt) ?_
        show Goes p e below s _ _ _ (s₁.setTop (mkF m 41 #[.val (.long q1), .second, .val (.int p2), .val (.int p3), .val (.int p4), .val (.long q5), .second, .val (.long j1_0), .second, .val (.int j2_0), .unset, .unset, .unset] [(.int (p3 ||| (32 : Int32)))]))
        refine Goes.pre (fun t kt => XS.i2s X0.here hx rfl (hb hby at_41) rfl kt) ?_
        show Goes p e below s _ _ _ (s₁.setTop (mkF m 42 #[.val (.long q1), .second, .val (.int p2), .val (.int p3), .val (.int p4), .val (.long q5), .second, .val (.long j1_0), .second, .val (.int j2_0), .unset, .unset, .unset] [(.int ((p3 ||| (32 : Int32)).toInt16.toInt32))]))
        refine Goes.pre (fun t kt => XS.istore X0.here hx rfl (hb hby at_42) rfl (l' := #[.val (.long q1), .second, .val (.int p2), .val (.int p3), .val (.int p4), .val (.long q5), .second, .val (.long j1_0), .second, .val (.int j2_0), .val (.int ((p3 ||| (32 : Int32)).toInt16.toInt32)), .unset, .unset]) rfl kt) ?_
        show Goes p e below s _ _ _ (s₁.setTop (mkF m 44 #[.val (.long q1), .second, .val (.int p2), .val (.int p3), .val (.int p4), .val (.long q5), .second, .val (.long j1_0), .second, .val (.int j2_0), .val (.int ((p3 ||| (32 : Int32)).toInt16.toInt32)), .unset, .unset] []))
        refine Goes.pre (fun t kt => XS.goto X0.here hx rfl (pc0 := 44) (pc' := 69) rfl (hb hby at_44) (by decide) (by decide) kt) ?_
        show Goes p e below s _ _ _ (s₁.setTop (mkF m 69 #[.val (.long q1), .second, .val (.int p2), .val (.int p3), .val (.int p4), .val (.long q5), .second, .val (.long j1_0), .second, .val (.int j2_0), .val (.int ((p3 ||| (32 : Int32)).toInt16.toInt32)), .unset, .unset] []))
        exact J3 (((p3 ||| (32 : Int32)).toInt16.toInt32)) (own_short _)
    by_cases hc20 : (p4 &&& (2 : Int32)) = (0 : Int32)
    · refine Goes.pre (fun t kt => XS.ifYes X0.here hx rfl (pc0 := 20) (pc' := 27) rfl (hb hby at_20) rfl (Jvm.Free.XT.i0_eq_t (hc20)) (by decide) (by decide) kt) ?_
      show Goes p e below s _ _ _ (s₁.setTop (mkF m 27 #[.val (.long q1), .second, .val (.int p2), .val (.int p3), .val (.int p4), .val (.long q5), .second, .val (.long j1_0), .second, .unset, .unset, .unset, .unset] []))
      refine Goes.pre (fun t kt => XS.iloadN X0.here hx rfl (hb hby at_27) rfl kt) ?_
      show Goes p e below s _ _ _ (s₁.setTop (mkF m 28 #[.val (.long q1), .second, .val (.int p2), .val (.int p3), .val (.int p4), .val (.long q5), .second, .val (.long j1_0), .second, .unset, .unset, .unset, .unset] [(.int p2)]))
      exact J2 (p2) 
    · refine Goes.pre (fun t kt => XS.ifNo X0.here hx rfl (hb hby at_20) rfl (Jvm.Free.XT.i0_eq_f (hc20)) kt) ?_
      show Goes p e below s _ _ _ (s₁.setTop (mkF m 23 #[.val (.long q1), .second, .val (.int p2), .val (.int p3), .val (.int p4), .val (.long q5), .second, .val (.long j1_0), .second, .unset, .unset, .unset, .unset] []))
      refine Goes.pre (fun t kt => XS.iconst X0.here hx rfl (hb hby at_23) kt) ?_
      show Goes p e below s _ _ _ (s₁.setTop (mkF m 24 #[.val (.long q1), .second, .val (.int p2), .val (.int p3), .val (.int p4), .val (.long q5), .second, .val (.long j1_0), .second, .unset, .unset, .unset, .unset] [(.int (-1 : Int32))]))
      refine Goes.pre (fun t kt => XS.goto X0.here hx rfl (pc0 := 24) (pc' := 28) rfl (hb hby at_24) (by decide) (by decide) kt) ?_
      show Goes p e below s _ _ _ (s₁.setTop (mkF m 28 #[.val (.long q1), .second, .val (.int p2), .val (.int p3), .val (.int p4), .val (.long q5), .second, .val (.long j1_0), .second, .unset, .unset, .unset, .unset] [(.int (-1 : Int32))]))
      exact J2 ((-1 : Int32)) 
  by_cases hc4 : (p4 &&& (1 : Int32)) = (0 : Int32)
  · refine Goes.pre (fun t kt => XS.ifYes X0.here hx rfl (pc0 := 4) (pc' := 13) rfl (hb hby at_4) rfl (Jvm.Free.XT.i0_eq_t (hc4)) (by decide) (by decide) kt) ?_
    show Goes p e below s _ _ _ (s₁.setTop (mkF m 13 #[.val (.long q1), .second, .val (.int p2), .val (.int p3), .val (.int p4), .val (.long q5), .second, .unset, .unset, .unset, .unset, .unset, .unset] []))
    refine Goes.pre (fun t kt => XS.lloadN X0.here hx rfl (hb hby at_13) rfl kt) ?_
    show Goes p e below s _ _ _ (s₁.setTop (mkF m 14 #[.val (.long q1), .second, .val (.int p2), .val (.int p3), .val (.int p4), .val (.long q5), .second, .unset, .unset, .unset, .unset, .unset, .unset] [(.long q1)]))
    exact J1 (q1) 
  · refine Goes.pre (fun t kt => XS.ifNo X0.here hx rfl (hb hby at_4) rfl (Jvm.Free.XT.i0_eq_f (hc4)) kt) ?_
    show Goes p e below s _ _ _ (s₁.setTop (mkF m 7 #[.val (.long q1), .second, .val (.int p2), .val (.int p3), .val (.int p4), .val (.long q5), .second, .unset, .unset, .unset, .unset, .unset, .unset] []))
    refine Goes.pre (X0.ldc2Long hx hown (mvT hZ (hw _ (List.mem_of_getElem? (i := 47) rfl))) (g := (mkF m 7 #[.val (.long q1), .second, .val (.int p2), .val (.int p3), .val (.int p4), .val (.long q5), .second, .unset, .unset, .unset, .unset, .unset, .unset] [])) rfl (hb hby at_7)) ?_
    show Goes p e below s _ _ _ (s₁.setTop (mkF m 10 #[.val (.long q1), .second, .val (.int p2), .val (.int p3), .val (.int p4), .val (.long q5), .second, .unset, .unset, .unset, .unset, .unset, .unset] [(.long (-1 : Int64))]))
    refine Goes.pre (fun t kt => XS.goto X0.here hx rfl (pc0 := 10) (pc' := 14) rfl (hb hby at_10) (by decide) (by decide) kt) ?_
    show Goes p e below s _ _ _ (s₁.setTop (mkF m 14 #[.val (.long q1), .second, .val (.int p2), .val (.int p3), .val (.int p4), .val (.long q5), .second, .unset, .unset, .unset, .unset, .unset, .unset] [(.long (-1 : Int64))]))
    exact J1 ((-1 : Int64)) 
set_option maxRecDepth 65536 in
set_option maxHeartbeats 40000000 in
theorem comes_1 {Post : Tables → Env → Array Value → State → Outcome → State → Prop} (hpost : ∀ tb e args s v u, (limb_1_1.after args s (.returned v) u = true ∧ limb_1_2.after args s (.returned v) u = true ∧ True) → FrameEnd s (.returned v) u (Jvm.fieldLocs frame_1_writes args s ++ Jvm.arrayLocs frame_1_arrays args s ++ Jvm.staticLocs frame_1_statics s) 16 128 → Post tb e args s (.returned v) u) :
    ArmFor flags0 classFile x code maxLocals ret World_1 tables_1 room_1 Calls_1 rest_1 Pre_1 Post := by
  intro l hfl _ _ p e ha hc hk s m args below hf hA hF happ hP
  obtain ⟨hcalls, hrest, hpre⟩ := hP
  obtain ⟨-, -, -, hnamed, -, -, -, hat⟩ := (Spec.applies_iff hf).mp happ
  obtain ⟨hg, hn⟩ := and_e (Cond.before_iff.mp (show (Jvm.Cond.and given_1 narrow_1).before args s = true from hpre))
  obtain ⟨gv1, gv2⟩ := and_e hg
  obtain ⟨gv3, gv4⟩ := and_e gv2
  obtain ⟨gv5, gv6⟩ := and_e gv4
  obtain ⟨gv7, gv8⟩ := and_e gv6
  obtain ⟨gv9, gv10⟩ := and_e gv8
  obtain ⟨w0, w1, w2, w3, w4, rfl⟩ : ∃ w0 w1 w2 w3 w4 : Value, args = #[w0, w1, w2, w3, w4] := by
    have hs : args.size = 5 := by simpa [Cond.value, given_1] using gv1
    obtain ⟨L⟩ := args
    match L, hs with
    | [w0, w1, w2, w3, w4], _ => exact ⟨w0, w1, w2, w3, w4, rfl⟩
  have hw := fun d (hd : d ∈ tables_1) => atoms_spec (ws := Jvm.Cond.code x code maxLocals ret :: tables_1) hat d (List.mem_cons_of_mem _ hd)
  have hfit : Fit s := fun {y c} hc i hi => by
    obtain ⟨ha, rfl⟩ := Array.getElem?_eq_some_iff.mp hc
    have q := List.all_eq_true.mp ((Array.all_eq_true_iff_forall_mem.mp hF) _ (Array.getElem_mem ha)) i (List.mem_range.mpr hi)
    simpa [Array.getElem?_eq_getElem hi] using q
  obtain ⟨i0, ei0⟩ := isL_v gv3
  obtain rfl : w0 = (.long i0) := Option.some.inj ei0
  obtain ⟨i1, ei1⟩ := is_v gv5
  obtain rfl : w1 = (.int i1) := Option.some.inj ei1
  obtain ⟨i2, ei2⟩ := is_v gv7
  obtain rfl : w2 = (.int i2) := Option.some.inj ei2
  obtain ⟨i3, ei3⟩ := is_v gv9
  obtain rfl : w3 = (.int i3) := Option.some.inj ei3
  obtain ⟨i4, ei4⟩ := isL_v gv10
  obtain rfl : w4 = (.long i4) := Option.some.inj ei4
  obtain ⟨n, o, h1, h2, h3, _, L, rfl, ⟨rfl, N⟩, hq⟩ := rm0 l s _ hw tables_1 i0 i1 i2 i3 i4  s.heap s.heap.size (Nat.le_refl _)  p e ha hc hk s m _ below hf ((Spec.applies_iff_loose hf).mp happ).1 ⟨rfl, State.Warmed39.refl s, rfl⟩ trivial
  refine ⟨n, _, h1, h2, h3, hpost _ _ _ _ _ _ ⟨Cond.after_iff.mpr rfl, Cond.after_iff.mpr (eq_i res_at (Term.int_eval (1)) rfl), trivial⟩ ⟨hq.1, hq.2.1, (hq.2.2.sift fun y hy => Or.inr (N y hy)).mono (by decide) (by decide)⟩⟩
theorem main_1_1 : Claimed_1_1 := comes_1 fun _ _ _ _ _ _ h hF => ⟨h.1, hF⟩
theorem main_1_2 : Claimed_1_2 := comes_1 fun _ _ _ _ _ _ h hF => ⟨h.2.1, hF⟩
end Jvm.Pilot.@@N@@
namespace Jvm.Pilot.@@N@@
open Jvm Jvm.ClassFile Sem Op Lib Jvm.Free Jvm.Stand Jvm.Pilot.@@N@@.Jvm.D
/-! MADE BY PROGRAM (witnessworld.py) out of the Statement's table words and the real class files: 9 classes; the members and pool entries that the words name. The judged class is class 1, her method 1. -/
namespace start1
open Jvm.ClassFile
def u (s : String) : CpInfo := .utf8 (stringToUtf16 s)
/-- a pool by its gaps: so many unusable entries, then the entry; so many at the end -/
def gap : Nat → List CpInfo → List CpInfo
  | 0, r => r
  | n + 1, r => .unusable :: gap n r
def poolList (es : List (Nat × CpInfo)) (last : Nat) : List CpInfo := es.foldr (fun e r => gap e.1 (e.2 :: r)) (gap last [])
def pool (es : List (Nat × CpInfo)) (last : Nat) : Array CpInfo := ⟨poolList es last⟩
def fileOf (pool : Array CpInfo) (this : Nat) (attrs : Array Attribute := #[]) (ms : Array MethodInfo := #[]) (fl : Nat := 33) (sup : Nat := 0) (ifs : Array Nat := #[]) (fds : Array FieldInfo := #[]) : ClassFile where
  minorVersion := 0
  majorVersion := 65
  constantPool := pool
  accessFlags := fl
  thisClass := this
  superClass := sup
  interfaces := ifs
  fields := fds
  methods := ms
  attributes := attrs
def plain (name : String) (sup : Option ClassId) : Class where
  name := name
  kind := .ordinary
  loader := none
  accessFlags := 33
  super := sup
  interfaces := #[]
  cf := none
  fields := #[]
  methods := #[]
  instanceTypes := #[]
  staticTypes := #[]
  resolved := #[]
  callSites := []
  init := .initialized
  statics := none
  mirror := none

def pool0 : Array CpInfo := pool [(5, u "<init>"), (0, u "()V"), (1, .class_ 10), (1, u "java/lang/Object")] 113

def k0c0 : Code := { maxStack := 0, maxLocals := 1, code := object_method_1_code, exceptionTable := #[], attributes := #[] }
def k0m0 : Method := { name := "<init>", desc := "()V", sig := { parameters := [], returnType := none }, accessFlags := 1, code := some k0c0 }
/-- java/lang/Object -/
def k0 : Class := { plain "java/lang/Object" none with
  accessFlags := 33
  interfaces := #[]
  cf := some (fileOf pool0 8 #[] #[{ accessFlags := 1, nameIndex := 5, descriptorIndex := 6, attributes := #[] }] 33 0 #[] #[])
  fields := #[]
  methods := #[k0m0]
  instanceTypes := #[]
  staticTypes := #[]
  resolved := Array.replicate 124 none
  statics := none }

def pool1 : Array CpInfo := pool [(2, .class_ 4), (0, .nameAndType 5 6), (0, u "java/lang/Object"), (0, u "<init>"), (0, u "()V"), (0, .long 18446744073709551615), (1, .class_ 10), (0, u "com/example/seqlint/seqlint/kafka/Batch"), (0, .methodref 9 3), (0, .methodref 9 13), (0, .nameAndType 14 15), (0, u "set"), (0, u "(JJIJSIJJJSII)V"), (0, .methodref 9 17), (0, .nameAndType 18 19), (0, u "setRecordsRead"), (0, u "(JLcom/example/seqlint/seqlint/kafka/Batch$Marker;)V"), (0, .methodref 21 22), (0, .class_ 23), (0, .nameAndType 24 25), (0, u "com/example/seqlint/seqlint/kafka/BatchIsSequencedPinLaw"), (0, u "reference"), (0, u "(JIS)Z"), (0, .methodref 9 27), (0, .nameAndType 28 29), (0, u "isSequenced"), (0, u "()Z"), (2, u "law"), (0, u "(JIIIJ)Z")] 7

def k1m0 : Method := { name := "<init>", desc := "()V", sig := { parameters := [], returnType := none }, accessFlags := 2, code := none }
def k1c1 : Code := { maxStack := 20, maxLocals := 13, code := code, exceptionTable := #[], attributes := #[] }
def k1m1 : Method := { name := "law", desc := "(JIIIJ)Z", sig := { parameters := [.long, .int, .int, .int, .long], returnType := some .boolean }, accessFlags := 9, code := some k1c1 }
def k1c2 : Code := { maxStack := 4, maxLocals := 5, code := method_3_code, exceptionTable := #[], attributes := #[] }
def k1m2 : Method := { name := "reference", desc := "(JIS)Z", sig := { parameters := [.long, .int, .short], returnType := some .boolean }, accessFlags := 10, code := some k1c2 }
/-- com/example/seqlint/seqlint/kafka/BatchIsSequencedPinLaw -/
def k1 : Class := { plain "com/example/seqlint/seqlint/kafka/BatchIsSequencedPinLaw" (some 0) with
  accessFlags := 49
  interfaces := #[]
  cf := some (fileOf pool1 21 #[] #[{ accessFlags := 2, nameIndex := 5, descriptorIndex := 6, attributes := #[] }, { accessFlags := 9, nameIndex := 32, descriptorIndex := 33, attributes := #[] }, { accessFlags := 10, nameIndex := 24, descriptorIndex := 25, attributes := #[] }] 49 2 #[] #[])
  fields := #[]
  methods := #[k1m0, k1m1, k1m2]
  instanceTypes := #[]
  staticTypes := #[]
  resolved := Array.replicate 41 none
  statics := none }

def pool2 : Array CpInfo := pool [(1, .methodref 2 3), (0, .class_ 4), (0, .nameAndType 5 6), (0, u "java/lang/Object"), (0, u "<init>"), (0, u "()V"), (0, .fieldref 8 9), (0, .class_ 10), (0, .nameAndType 11 12), (0, u "com/example/seqlint/seqlint/kafka/Batch"), (0, u "position"), (0, u "J"), (0, .fieldref 8 14), (0, .nameAndType 15 12), (0, u "baseOffset"), (0, .fieldref 8 17), (0, .nameAndType 18 19), (0, u "leaderEpoch"), (0, u "I"), (0, .fieldref 8 21), (0, .nameAndType 22 12), (0, u "storedCrc"), (0, .long 18446744073709551615), (1, .fieldref 8 26), (0, .nameAndType 27 12), (0, u "computedCrc"), (0, .fieldref 8 29), (0, .nameAndType 30 31), (0, u "attributes"), (0, u "S"), (0, .fieldref 8 33), (0, .nameAndType 34 19), (0, u "lastOffsetDelta"), (0, .fieldref 8 36), (0, .nameAndType 37 12), (0, u "firstTimestamp"), (0, .fieldref 8 39), (0, .nameAndType 40 12), (0, u "maxTimestamp"), (0, .fieldref 8 42), (0, .nameAndType 43 12), (0, u "producerId"), (0, .fieldref 8 45), (0, .nameAndType 46 31), (0, u "producerEpoch"), (0, .fieldref 8 48), (0, .nameAndType 49 19), (0, u "baseSequence"), (0, .fieldref 8 51), (0, .nameAndType 52 19), (0, u "recordCount"), (0, .fieldref 8 54), (0, .nameAndType 55 56), (0, u "marker"), (0, u "Lcom/example/seqlint/seqlint/kafka/Batch$Marker;"), (32, u "()Z"), (10, u "SEQUENCE_SPACE"), (1, u "NO_TIMESTAMP"), (0, u "NO_OFFSET"), (0, u "NO_LEADER_EPOCH"), (1, u "TRANSACTIONAL_FLAG"), (1, u "CONTROL_FLAG"), (1, u "NO_PRODUCER_ID"), (0, u "NO_SEQUENCE"), (0, u "NOT_COMPUTED"), (2, u "set"), (0, u "(JJIJSIJJJSII)V"), (0, u "setRecordsRead"), (0, u "(JLcom/example/seqlint/seqlint/kafka/Batch$Marker;)V"), (3, u "isSequenced"), (12, .class_ 136), (0, u "com/example/seqlint/seqlint/kafka/Batch$Marker")] 2

def k2c0 : Code := { maxStack := 1, maxLocals := 1, code := prog_49_method_1_code, exceptionTable := #[], attributes := #[] }
def k2m0 : Method := { name := "<init>", desc := "()V", sig := { parameters := [], returnType := none }, accessFlags := 0, code := some k2c0 }
def k2c1 : Code := { maxStack := 3, maxLocals := 19, code := prog_49_method_2_code, exceptionTable := #[], attributes := #[] }
def k2m1 : Method := { name := "set", desc := "(JJIJSIJJJSII)V", sig := { parameters := [.long, .long, .int, .long, .short, .int, .long, .long, .long, .short, .int, .int], returnType := none }, accessFlags := 0, code := some k2c1 }
def k2c2 : Code := { maxStack := 3, maxLocals := 4, code := prog_49_method_3_code, exceptionTable := #[], attributes := #[] }
def k2m2 : Method := { name := "setRecordsRead", desc := "(JLcom/example/seqlint/seqlint/kafka/Batch$Marker;)V", sig := { parameters := [.long, (.object "com/example/seqlint/seqlint/kafka/Batch$Marker")], returnType := none }, accessFlags := 0, code := some k2c2 }
def k2c3 : Code := { maxStack := 4, maxLocals := 1, code := prog_49_method_14_code, exceptionTable := #[], attributes := #[] }
def k2m3 : Method := { name := "isSequenced", desc := "()Z", sig := { parameters := [], returnType := some .boolean }, accessFlags := 0, code := some k2c3 }
/-- com/example/seqlint/seqlint/kafka/Batch -/
def k2 : Class := { plain "com/example/seqlint/seqlint/kafka/Batch" (some 0) with
  accessFlags := 32
  interfaces := #[]
  cf := some (fileOf pool2 8 #[.nestMembers #[135]] #[{ accessFlags := 0, nameIndex := 5, descriptorIndex := 6, attributes := #[] }, { accessFlags := 0, nameIndex := 115, descriptorIndex := 116, attributes := #[] }, { accessFlags := 0, nameIndex := 117, descriptorIndex := 118, attributes := #[] }, { accessFlags := 0, nameIndex := 122, descriptorIndex := 89, attributes := #[] }] 32 2 #[] #[{ accessFlags := 24, nameIndex := 100, descriptorIndex := 12, attributes := #[] }, { accessFlags := 24, nameIndex := 102, descriptorIndex := 12, attributes := #[] }, { accessFlags := 24, nameIndex := 103, descriptorIndex := 12, attributes := #[] }, { accessFlags := 24, nameIndex := 104, descriptorIndex := 19, attributes := #[] }, { accessFlags := 26, nameIndex := 106, descriptorIndex := 19, attributes := #[] }, { accessFlags := 24, nameIndex := 108, descriptorIndex := 19, attributes := #[] }, { accessFlags := 26, nameIndex := 110, descriptorIndex := 12, attributes := #[] }, { accessFlags := 26, nameIndex := 111, descriptorIndex := 19, attributes := #[] }, { accessFlags := 26, nameIndex := 112, descriptorIndex := 12, attributes := #[] }, { accessFlags := 2, nameIndex := 11, descriptorIndex := 12, attributes := #[] }, { accessFlags := 2, nameIndex := 15, descriptorIndex := 12, attributes := #[] }, { accessFlags := 2, nameIndex := 18, descriptorIndex := 19, attributes := #[] }, { accessFlags := 2, nameIndex := 22, descriptorIndex := 12, attributes := #[] }, { accessFlags := 2, nameIndex := 27, descriptorIndex := 12, attributes := #[] }, { accessFlags := 2, nameIndex := 30, descriptorIndex := 31, attributes := #[] }, { accessFlags := 2, nameIndex := 34, descriptorIndex := 19, attributes := #[] }, { accessFlags := 2, nameIndex := 37, descriptorIndex := 12, attributes := #[] }, { accessFlags := 2, nameIndex := 40, descriptorIndex := 12, attributes := #[] }, { accessFlags := 2, nameIndex := 43, descriptorIndex := 12, attributes := #[] }, { accessFlags := 2, nameIndex := 46, descriptorIndex := 31, attributes := #[] }, { accessFlags := 2, nameIndex := 49, descriptorIndex := 19, attributes := #[] }, { accessFlags := 2, nameIndex := 52, descriptorIndex := 19, attributes := #[] }, { accessFlags := 2, nameIndex := 55, descriptorIndex := 56, attributes := #[] }])
  fields := #[{ name := "SEQUENCE_SPACE", type := .long, accessFlags := 24, slot := 0, constantValue := 0 }, { name := "NO_TIMESTAMP", type := .long, accessFlags := 24, slot := 1, constantValue := 0 }, { name := "NO_OFFSET", type := .long, accessFlags := 24, slot := 2, constantValue := 0 }, { name := "NO_LEADER_EPOCH", type := .int, accessFlags := 24, slot := 3, constantValue := 0 }, { name := "TRANSACTIONAL_FLAG", type := .int, accessFlags := 26, slot := 4, constantValue := 0 }, { name := "CONTROL_FLAG", type := .int, accessFlags := 24, slot := 5, constantValue := 0 }, { name := "NO_PRODUCER_ID", type := .long, accessFlags := 26, slot := 6, constantValue := 0 }, { name := "NO_SEQUENCE", type := .int, accessFlags := 26, slot := 7, constantValue := 0 }, { name := "NOT_COMPUTED", type := .long, accessFlags := 26, slot := 8, constantValue := 0 }, { name := "position", type := .long, accessFlags := 2, slot := 0, constantValue := 0 }, { name := "baseOffset", type := .long, accessFlags := 2, slot := 1, constantValue := 0 }, { name := "leaderEpoch", type := .int, accessFlags := 2, slot := 2, constantValue := 0 }, { name := "storedCrc", type := .long, accessFlags := 2, slot := 3, constantValue := 0 }, { name := "computedCrc", type := .long, accessFlags := 2, slot := 4, constantValue := 0 }, { name := "attributes", type := .short, accessFlags := 2, slot := 5, constantValue := 0 }, { name := "lastOffsetDelta", type := .int, accessFlags := 2, slot := 6, constantValue := 0 }, { name := "firstTimestamp", type := .long, accessFlags := 2, slot := 7, constantValue := 0 }, { name := "maxTimestamp", type := .long, accessFlags := 2, slot := 8, constantValue := 0 }, { name := "producerId", type := .long, accessFlags := 2, slot := 9, constantValue := 0 }, { name := "producerEpoch", type := .short, accessFlags := 2, slot := 10, constantValue := 0 }, { name := "baseSequence", type := .int, accessFlags := 2, slot := 11, constantValue := 0 }, { name := "recordCount", type := .int, accessFlags := 2, slot := 12, constantValue := 0 }, { name := "marker", type := (.object "com/example/seqlint/seqlint/kafka/Batch$Marker"), accessFlags := 2, slot := 13, constantValue := 0 }]
  methods := #[k2m0, k2m1, k2m2, k2m3]
  instanceTypes := #[.long, .long, .int, .long, .long, .short, .int, .long, .long, .long, .short, .int, .int, (.object "com/example/seqlint/seqlint/kafka/Batch$Marker")]
  staticTypes := #[.long, .long, .long, .int, .int, .int, .long, .int, .long]
  resolved := Array.replicate 139 none
  statics := none }

def pool3 : Array CpInfo := pool [(1, u "java/lang/Cloneable"), (0, .class_ 1), (0, u "java/lang/Object"), (0, .class_ 3)] 3

/-- java/lang/Cloneable -/
def k3 : Class := { plain "java/lang/Cloneable" (some 0) with
  accessFlags := 1537
  interfaces := #[]
  cf := some (fileOf pool3 2 #[] #[] 1537 4 #[] #[])
  fields := #[]
  methods := #[]
  instanceTypes := #[]
  staticTypes := #[]
  resolved := Array.replicate 8 none
  statics := none }

def pool4 : Array CpInfo := pool [(1, u "java/io/Serializable"), (0, .class_ 1), (0, u "java/lang/Object"), (0, .class_ 3)] 3

/-- java/io/Serializable -/
def k4 : Class := { plain "java/io/Serializable" (some 0) with
  accessFlags := 1537
  interfaces := #[]
  cf := some (fileOf pool4 2 #[] #[] 1537 4 #[] #[])
  fields := #[]
  methods := #[]
  instanceTypes := #[]
  staticTypes := #[]
  resolved := Array.replicate 8 none
  statics := none }

/-- the primitive byte -/
def k5 : Class := { plain "byte" none with kind := .primitive 'B', accessFlags := 0x411 }
/-- [B -/
def k6 : Class := { plain "[B" (some 0) with kind := .array 5 .byte, interfaces := #[3, 4], accessFlags := 1041 }

/-- the primitive int -/
def k7 : Class := { plain "int" none with kind := .primitive 'I', accessFlags := 0x411 }
/-- [I -/
def k8 : Class := { plain "[I" (some 0) with kind := .array 7 .int, interfaces := #[3, 4], accessFlags := 1041 }

def heap : Heap := #[]
def classes : Array Class := #[k0, k1, k2, k3, k4, k5, k6, k7, k8]
def interned : List (Array UInt16 × Addr) := []
def slotsUsed : Nat := 0
def theMethod : MethodId := ⟨1, 1⟩
def args0 : Array Value := #[.long 5, .int 3, .int 7, .int 0, .long 9]
def aboutOver (below : List Frame) : State where
  vm := { classes := classes, interned := interned.toArray }
  heap := heap
  slotsUsed := slotsUsed
  threads := #[{ frames := .invoking theMethod args0 :: below }]
def below0 : List Frame := [.native { method := ⟨0, 0⟩, args := #[] }]
def about1 : State := aboutOver below0
def p0 : Program := .bare "" "" ""
def e0 : Env := launch0.env 0 0 0
theorem w_frames : about1.frames = Frame.invoking theMethod args0 :: below0 := rfl
set_option maxRecDepth 65536 in
theorem w_args : argsFit about1.vm theMethod args0 = true := by decide +kernel
set_option maxRecDepth 65536 in
theorem w_heap : heapFits about1 = true := by decide +kernel
set_option maxRecDepth 65536 in
theorem w_runnable : about1.curStatus? = some .runnable := by decide +kernel
set_option maxRecDepth 65536 in
theorem w_alone : about1.alone = true := by decide +kernel
set_option maxRecDepth 65536 in
theorem w_named : about1.methodNamed? x = some theMethod := by decide +kernel
set_option maxRecDepth 65536 in
theorem w_hears : about1.hears theMethod below0 = true := by decide +kernel
set_option maxRecDepth 65536 in
theorem w_ripe : about1.ripe theMethod args0 below0 = true := by decide +kernel
theorem w_running : about1.status = .running := rfl
set_option maxRecDepth 65536 in
theorem w_room : about1.hasRoom e0.platform room_1 = true :=
  launch0.hasRoom_least _ room_1 (by decide +kernel) (by decide +kernel) (by decide +kernel) (by decide +kernel) (by decide +kernel) (by decide +kernel)
theorem allAtoms_all (ts : List Jvm.Cond) (a : Array Jvm.Value) (st : Jvm.State) : (allAtoms ts).before a st = ts.all (fun c => c.before a st) := by
  induction ts with
  | nil => rfl
  | cons c t ih =>
    show (Jvm.Cond.and c (allAtoms t)).before a st = _
    rw [Jvm.Cond.before_and, ih, List.all_cons]
def words1 : List Jvm.Cond := Jvm.Cond.code x code maxLocals ret :: tables_1
/-- a 'code' word, met by the world's own term for the bytes: nothing is compared byte by byte -/
theorem code_word {y : MethodName} {bytes : ByteArray} {mx : Nat} {rt : Option FieldType} {a : Array Value} {s : State} {m : MethodId} {meth : Method} {c : Code} (h1 : s.methodNamed? y = some m) (h2 : s.vm.method? m = some meth) (h3 : meth.code = some c) (h4 : c.code = bytes)
    (h5 : (c.maxLocals == mx && c.exceptionTable.isEmpty && decide (c.maxStack ≤ mostOperands) && decide (meth.sig.returnType = rt) && !meth.locks && decide (parseMethodDescriptor y.desc = some meth.sig)) = true) : (Jvm.Cond.code y bytes mx rt).before a s = true := by
  simp only [Bool.and_eq_true, beq_iff_eq, Bool.not_eq_true', decide_eq_true_eq] at h5
  obtain ⟨⟨⟨⟨⟨g1, g2⟩, g3⟩, g4⟩, g5⟩, g6⟩ := h5
  simp [Cond.before, Cond.holds, Cond.value, h1, h2, h3, h4, g1, g2, g3, g4, g5, g6]
def isCode : Jvm.Cond → Bool
  | .code _ _ _ _ => true
  | _ => false
theorem all_split {L : List Jvm.Cond} {P : Jvm.Cond → Bool} (h1 : L.all (fun c => isCode c || P c) = true) (h2 : ∀ c ∈ L.filter isCode, P c = true) : L.all P = true := by
  refine List.all_eq_true.mpr fun c hc => ?_
  have h := List.all_eq_true.mp h1 c hc
  rcases Bool.eq_false_or_eq_true (isCode c) with hi | hi
  · exact h2 c (List.mem_filter.mpr ⟨hc, hi⟩)
  · simpa [hi] using h
set_option maxRecDepth 65536 in
theorem w_c0 : (Jvm.Cond.code x code maxLocals ret).before args0 about1 = true := code_word (m := ⟨1, 1⟩) (meth := k1m1) (c := k1c1) (by decide +kernel) rfl rfl rfl (by decide +kernel)
set_option maxRecDepth 65536 in
theorem w_c1 : (Jvm.Cond.code ({ cls := "com/example/seqlint/seqlint/kafka/Batch", name := "<init>", desc := "()V" } : Jvm.MethodName) prog_49_method_1_code (1 : Nat) (Option.none : Option Jvm.ClassFile.FieldType)).before args0 about1 = true := code_word (m := ⟨2, 0⟩) (meth := k2m0) (c := k2c0) (by decide +kernel) rfl rfl rfl (by decide +kernel)
set_option maxRecDepth 65536 in
theorem w_c2 : (Jvm.Cond.code ({ cls := "java/lang/Object", name := "<init>", desc := "()V" } : Jvm.MethodName) object_method_1_code (1 : Nat) (Option.none : Option Jvm.ClassFile.FieldType)).before args0 about1 = true := code_word (m := ⟨0, 0⟩) (meth := k0m0) (c := k0c0) (by decide +kernel) rfl rfl rfl (by decide +kernel)
set_option maxRecDepth 65536 in
theorem w_c3 : (Jvm.Cond.code ({ cls := "com/example/seqlint/seqlint/kafka/Batch", name := "set", desc := "(JJIJSIJJJSII)V" } : Jvm.MethodName) prog_49_method_2_code (19 : Nat) (Option.none : Option Jvm.ClassFile.FieldType)).before args0 about1 = true := code_word (m := ⟨2, 1⟩) (meth := k2m1) (c := k2c1) (by decide +kernel) rfl rfl rfl (by decide +kernel)
set_option maxRecDepth 65536 in
theorem w_c4 : (Jvm.Cond.code ({ cls := "com/example/seqlint/seqlint/kafka/BatchIsSequencedPinLaw", name := "reference", desc := "(JIS)Z" } : Jvm.MethodName) method_3_code (5 : Nat) (Option.some Jvm.ClassFile.FieldType.boolean)).before args0 about1 = true := code_word (m := ⟨1, 2⟩) (meth := k1m2) (c := k1c2) (by decide +kernel) rfl rfl rfl (by decide +kernel)
set_option maxRecDepth 65536 in
theorem w_c5 : (Jvm.Cond.code ({ cls := "com/example/seqlint/seqlint/kafka/Batch", name := "isSequenced", desc := "()Z" } : Jvm.MethodName) prog_49_method_14_code (1 : Nat) (Option.some Jvm.ClassFile.FieldType.boolean)).before args0 about1 = true := code_word (m := ⟨2, 3⟩) (meth := k2m3) (c := k2c3) (by decide +kernel) rfl rfl rfl (by decide +kernel)
set_option maxRecDepth 65536 in
theorem w_c6 : (Jvm.Cond.code ({ cls := "com/example/seqlint/seqlint/kafka/Batch", name := "setRecordsRead", desc := "(JLcom/example/seqlint/seqlint/kafka/Batch$Marker;)V" } : Jvm.MethodName) prog_49_method_3_code (4 : Nat) (Option.none : Option Jvm.ClassFile.FieldType)).before args0 about1 = true := code_word (m := ⟨2, 2⟩) (meth := k2m2) (c := k2c2) (by decide +kernel) rfl rfl rfl (by decide +kernel)
def codes1 : List Jvm.Cond := [Jvm.Cond.code x code maxLocals ret, Jvm.Cond.code ({ cls := "com/example/seqlint/seqlint/kafka/Batch", name := "<init>", desc := "()V" } : Jvm.MethodName) prog_49_method_1_code (1 : Nat) (Option.none : Option Jvm.ClassFile.FieldType), Jvm.Cond.code ({ cls := "java/lang/Object", name := "<init>", desc := "()V" } : Jvm.MethodName) object_method_1_code (1 : Nat) (Option.none : Option Jvm.ClassFile.FieldType), Jvm.Cond.code ({ cls := "com/example/seqlint/seqlint/kafka/Batch", name := "set", desc := "(JJIJSIJJJSII)V" } : Jvm.MethodName) prog_49_method_2_code (19 : Nat) (Option.none : Option Jvm.ClassFile.FieldType), Jvm.Cond.code ({ cls := "com/example/seqlint/seqlint/kafka/BatchIsSequencedPinLaw", name := "reference", desc := "(JIS)Z" } : Jvm.MethodName) method_3_code (5 : Nat) (Option.some Jvm.ClassFile.FieldType.boolean), Jvm.Cond.code ({ cls := "com/example/seqlint/seqlint/kafka/Batch", name := "isSequenced", desc := "()Z" } : Jvm.MethodName) prog_49_method_14_code (1 : Nat) (Option.some Jvm.ClassFile.FieldType.boolean), Jvm.Cond.code ({ cls := "com/example/seqlint/seqlint/kafka/Batch", name := "setRecordsRead", desc := "(JLcom/example/seqlint/seqlint/kafka/Batch$Marker;)V" } : Jvm.MethodName) prog_49_method_3_code (4 : Nat) (Option.none : Option Jvm.ClassFile.FieldType)]
set_option maxRecDepth 65536 in
theorem codes_eq : words1.filter isCode = codes1 := rfl
theorem w_codes : ∀ c ∈ words1.filter isCode, c.before args0 about1 = true := by
  rw [codes_eq]
  intro c hc
  simp only [codes1, List.mem_cons, List.not_mem_nil, or_false] at hc
  rcases hc with rfl | rfl | rfl | rfl | rfl | rfl | rfl
  · exact w_c0
  · exact w_c1
  · exact w_c2
  · exact w_c3
  · exact w_c4
  · exact w_c5
  · exact w_c6
set_option maxRecDepth 65536 in
theorem w_t1 : (words1.take 24).all (fun c => isCode c || c.before args0 about1) = true := by decide +kernel
set_option maxRecDepth 65536 in
theorem w_t2 : ((words1.drop 24).take 24).all (fun c => isCode c || c.before args0 about1) = true := by decide +kernel
set_option maxRecDepth 65536 in
theorem w_t3 : ((words1.drop 24).drop 24).all (fun c => isCode c || c.before args0 about1) = true := by decide +kernel
theorem w_tables : (allAtoms (Jvm.Cond.code x code maxLocals ret :: tables_1)).before args0 about1 = true := by
  rw [allAtoms_all]
  show words1.all (fun c => c.before args0 about1) = true
  refine all_split ?_ w_codes
  rw [← List.take_append_drop 24 words1, List.all_append, w_t1, ← List.take_append_drop 24 (words1.drop 24), List.all_append, w_t2, w_t3]
  rfl
set_option maxRecDepth 65536 in
theorem w_case : (Jvm.Cond.and given_1 narrow_1).before args0 about1 = true := by decide +kernel
theorem w_applies : (headSpec (Jvm.Cond.code x code maxLocals ret :: tables_1) room_1).applies x e0.platform about1 = true :=
  (Spec.applies_iff w_frames).mpr ⟨w_running, w_runnable, w_alone, w_named, w_hears, w_ripe, w_room, w_tables⟩
theorem atStart : AtStart classFile x code maxLocals ret World_1 tables_1 room_1 Calls_1 rest_1 Pre_1 launch0 p0 e0 about1 theMethod args0 below0 :=
  ⟨lists_1, trivial, launch0.admits_env _ _ _, launch0.least_env, fairChoices_fair.cas, fairChoices_fair.clock, w_frames, w_args, w_heap, w_applies, trivial, trivial, w_case⟩
end start1
theorem witness_1 : WitnessClaimed_1 := ⟨start1.p0, start1.e0, start1.about1, start1.theMethod, start1.args0, start1.below0, start1.atStart⟩
end Jvm.Pilot.@@N@@
