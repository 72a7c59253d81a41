import JvmDerived
import JvmDerived.Pilot.@@N@@Statement
import JvmDerived.Pilot.@@N@@Code
set_option linter.unusedVariables false
set_option linter.unusedSimpArgs false
namespace Jvm.Pilot.@@N@@
open Jvm Jvm.ClassFile Sem Op Lib Jvm.Free Jvm.Stand Jvm.LawKit Jvm.RoadKit Bundle Jvm.Pilot.@@N@@.Jvm.D
/-- from A the run comes to an end of the body that says P -/
def Goes (p : Program) (e : Env) (below : List Frame) (s : State) (P : Option Value → Heap → List Loc → Prop) (k n : Nat) (A : State) : Prop :=
  ∃ s₂ o, Steps p.tables e below A s₂ ∧ s₂.status = .running ∧ Ended s₂ below o ∧ ∃ v L, o = .returned v ∧ P v s₂.heap L ∧ FrameEnd s o s₂ L k n
section OwnGoes
variable {p : Program} {l : Launch} {e : Env} {R : Room} {s : State} {m : MethodId} {args : Array Value} {below : List Frame} {meth : Method} {c : Code} {T : State} {locs : List Loc} {cells slots : Nat} {P : Option Value → Heap → List Loc → Prop} {k n : Nat} {A B : State}
theorem Goes.pre (h : ∀ t, Steps p.tables e below B t → Steps p.tables e below A t) (g : Goes p e below s P k n B) : Goes p e below s P k n A := by
  obtain ⟨t, o, h1, r⟩ := g
  exact ⟨t, o, h _ h1, r⟩
theorem Goes.run (h : Steps p.tables e below A B) (g : Goes p e below s P k n B) : Goes p e below s P k n A := g.pre fun _ q => h.trans q
theorem Goes.ret (X : Stand p l e R s m args below meth c T locs cells slots) (v : Option Value) (hv : meth.sig.returnType = none → v = none) (hlocks : meth.locks = false) (hk : cells ≤ k) (hn : slots ≤ n) {f : JFrame}
    (st : ∀ fs : List Frame, (∀ (f : JFrame) (acts : List Action), f.method = m → f.locked = none → f.entered = [] → (doReturn e (T.setTop f) acts v).1 = T.setFrames fs) → Steps p.tables e below (T.setTop f) (T.setFrames fs))
    (hP : P v T.heap locs) : Goes p e below s P k n (T.setTop f) := by
  obtain ⟨fs, hr, hrun, hended, hW, hsame⟩ := X.leave (v := v) hv hlocks
  exact ⟨_, _, st fs hr, hrun, hended, _, _, rfl, hP, ⟨_, rfl⟩, hW, hsame.mono hk hn⟩
end OwnGoes

theorem own_splitN (a m n : Int32) (h : m &&& n = 0) : a &&& (m ||| n) = (a &&& m) + (a &&& n) := by
  have h1 : (a &&& m) &&& (a &&& n) = 0 := by
    calc (a &&& m) &&& (a &&& n) = (a &&& a) &&& (m &&& n) := by ac_rfl
      _ = 0 := by rw [h]; simp
  apply Int32.toBitVec_inj.mp
  have h' : (a.toBitVec &&& m.toBitVec) &&& (a.toBitVec &&& n.toBitVec) = 0#32 := congrArg Int32.toBitVec h1
  show a.toBitVec &&& (m.toBitVec ||| n.toBitVec) = (a.toBitVec &&& m.toBitVec) + (a.toBitVec &&& n.toBitVec)
  rw [BitVec.add_eq_or_of_and_eq_zero _ _ h', ← BitVec.and_or_distrib_left]
theorem own_short (x : Int32) : x.toInt16.toInt32.toInt16.toInt32 = x.toInt16.toInt32 := by simp
theorem own_fitS {x : Int32} (h : x.toInt16.toInt32 = x) : fits .short (.int x) = true := by
  have q := fits_nar_short x
  rwa [show nar .short x = x from h] at q

def own_nz (q : Int64) : Int32 := if q = (-1 : Int64) then 0 else 1
def own_bit (a k : Int32) : Int32 := if (a &&& k) = (0 : Int32) then 0 else 1
def own_mk (q : Int64) (a : Int32) : Int32 := if q = (-1 : Int64) then 0 else if (a &&& (32 : Int32)) = (0 : Int32) then 0 else 1
def own_tx (q : Int64) (a : Int32) : Int32 := if q = (-1 : Int64) then 0 else if (a &&& (48 : Int32)) = (16 : Int32) then 1 else 0
def own_ts (q : Int64) : Int64 := if q < (0 : Int64) then (-1) else q
def own_lo (q : Int64) (p : Int32) : Int64 := if ((q ^^^ (q + (p.toInt64))) &&& ((p.toInt64) ^^^ (q + (p.toInt64)))) < (0 : Int64) then (if p < (0 : Int32) then (-9223372036854775808 : Int64) else (9223372036854775807 : Int64)) else (q + (p.toInt64))
theorem own_bits (a : Int32) : (a &&& (48 : Int32)) = (16 : Int32) ↔ ((a &&& (32 : Int32)) = (0 : Int32) ∧ ¬ (a &&& (16 : Int32)) = (0 : Int32)) := by
  have e1 : a &&& (48 : Int32) = (a &&& 32) + (a &&& 16) := own_splitN a 32 16 (by decide)
  have e2 : a &&& (31 : Int32) = (a &&& 16) + (a &&& 15) := own_splitN a 16 15 (by decide)
  have h1 := c_mask a 31 5 (by decide) (by decide)
  have h2 := c_mask a 15 4 (by decide) (by decide)
  have h3 := c_iadd (a &&& 32) (a &&& 16)
  have h4 := c_iadd (a &&& 16) (a &&& 15)
  have h5 := c_and a 32 (by decide)
  have h6 := c_and a 16 (by decide)
  have h7 := c_and a 15 (by decide)
  have k0 : (0 : Int32).toInt = 0 := by decide
  have k1 : (16 : Int32).toInt = 16 := by decide
  have k2 : (32 : Int32).toInt = 32 := by decide
  have k3 : (15 : Int32).toInt = 15 := by decide
  have k4 : (48 : Int32).toInt = 48 := by decide
  have h10 := c_and a 48 (by decide)
  have e3 : a &&& (63 : Int32) = (a &&& 32) + (a &&& 31) := own_splitN a 32 31 (by decide)
  have h8 := c_mask a 63 6 (by decide) (by decide)
  have h9 := c_iadd (a &&& 32) (a &&& 31)
  rw [← e1] at h3
  rw [← e2] at h4
  rw [← e3] at h9
  simp only [← Int32.toInt_inj, k0, k1]
  omega
theorem own_mkA {z : Int32} {q : Int64} {a : Int32} (hz : z = own_nz q) (h : z = (0 : Int32)) : (0 : Int32) = own_mk q a := by
  rw [hz] at h; unfold own_nz at h; unfold own_mk; split at h
  · rename_i e; rw [if_pos e]
  · cases h
theorem own_mkB {z : Int32} {q : Int64} {a : Int32} (hz : z = own_bit a 32) (h : z = (0 : Int32)) : (0 : Int32) = own_mk q a := by
  rw [hz] at h; unfold own_bit at h; unfold own_mk; split at h
  · rename_i e; rw [if_pos e]; split <;> rfl
  · cases h
theorem own_mkC {z y : Int32} {q : Int64} {a : Int32} (hz : z = own_nz q) (hy : y = own_bit a 32) (h : ¬ z = (0 : Int32)) (h2 : ¬ y = (0 : Int32)) : (1 : Int32) = own_mk q a := by
  rw [hz] at h; rw [hy] at h2; unfold own_nz at h; unfold own_bit at h2; unfold own_mk; split at h
  · exact absurd rfl h
  · rename_i e; rw [if_neg e]; split at h2
    · exact absurd rfl h2
    · rename_i e2; rw [if_neg e2]
theorem own_txA {z : Int32} {q : Int64} {a : Int32} (hz : z = own_nz q) (h : z = (0 : Int32)) : (0 : Int32) = own_tx q a := by
  rw [hz] at h; unfold own_nz at h; unfold own_tx; split at h
  · rename_i e; rw [if_pos e]
  · cases h
theorem own_txB {z : Int32} {q : Int64} {a : Int32} (hz : z = own_bit a 16) (h : z = (0 : Int32)) : (0 : Int32) = own_tx q a := by
  rw [hz] at h; unfold own_bit at h; unfold own_tx; split at h
  · rename_i e; rw [if_neg (fun w => ((own_bits a).mp w).2 e)]; split <;> rfl
  · cases h
theorem own_txD {z : Int32} {q : Int64} {a : Int32} (hz : z = own_bit a 32) (h : ¬ z = (0 : Int32)) : (0 : Int32) = own_tx q a := by
  rw [hz] at h; unfold own_bit at h; unfold own_tx; split at h
  · exact absurd rfl h
  · rename_i e; rw [if_neg (fun w => e ((own_bits a).mp w).1)]; split <;> rfl
theorem own_txC {z y x : Int32} {q : Int64} {a : Int32} (hz : z = own_nz q) (hy : y = own_bit a 16) (hx : x = own_bit a 32) (h : ¬ z = (0 : Int32)) (h2 : ¬ y = (0 : Int32)) (h3 : x = (0 : Int32)) : (1 : Int32) = own_tx q a := by
  rw [hz] at h; rw [hy] at h2; rw [hx] at h3; unfold own_nz at h; unfold own_bit at h2 h3; unfold own_tx; split at h
  · exact absurd rfl h
  · rename_i e; rw [if_neg e]; split at h2
    · exact absurd rfl h2
    · rename_i e2; split at h3
      · rename_i e3; rw [if_pos ((own_bits a).mpr ⟨e3, e2⟩)]
      · cases h3
theorem d1_0 : decode prog_49_method_1_code 0 = .ok (.aload_n 0, 1) := by decide +kernel
theorem d1_1 : decode prog_49_method_1_code 1 = .ok (.invokespecial 1, 3) := by decide +kernel
theorem d1_4 : decode prog_49_method_1_code 4 = .ok (.return_, 1) := by decide +kernel
theorem pn_0 : plainName "com/example/seqlint/seqlint/kafka/Batch" = true := by first | (simp [plainName, overriddenIn]; done) | decide +kernel
def Q_rm1 (Z : State) (a1 : Addr) (h0 : Heap) (n0 : Nat) (v : Option Value) (h : Heap) (L : List Loc) : Prop := v = none ∧ Fr n0 L ∧ h = h0
theorem ef_rm1 (m : MethodId) (a1 : Addr) : entryFrame m #[(.ref a1)] 1 = mkF m 0 #[.val (.ref a1)] [] := by first | (simp [entryFrame, mkF, argsToLocals, Value.category]; done) | rfl
set_option maxRecDepth 65536 in
set_option maxHeartbeats 40000000 in
theorem rm1 (l : Launch) (Z : State) (a0 : Array Value) (hw : ∀ d ∈ tables_1, d.before a0 Z = true) (ws : List Jvm.Cond) (a1 : Addr) (h0 : Heap) (n0 : Nat) (Z0 : n0 ≤ h0.size) :
    MetFree l (⟨"com/example/seqlint/seqlint/kafka/Batch", "<init>", "()V"⟩ : MethodName) (head1 (Jvm.Cond.code (⟨"com/example/seqlint/seqlint/kafka/Batch", "<init>", "()V"⟩ : MethodName) prog_49_method_1_code 1 none :: ws) ({ frames := 1, cells := 0, slots := 0, locals := 12 } : Room)) (fun a U => a = #[(.ref a1)] ∧ Z.Warmed39 U.vm ∧ U.heap = h0) (fun _ _ _ _ _ => True) (fun _ U o U' => ∃ v L, o = .returned v ∧ Q_rm1 Z a1 h0 n0 v U'.heap L ∧ FrameEnd U o U' L ({ frames := 1, cells := 0, slots := 0, locals := 12 } : Room).cells ({ frames := 1, cells := 0, slots := 0, locals := 12 } : Room).slots) := by
  refine MetFree.of_bodySF (plainFor_of_name pn_0) hisR ?_
  intro p e s m args below meth c s₁ Bd hml0 hP hK
  obtain ⟨rfl, hZ, hh⟩ := hP
  have hx := Bd.exec
  have hby := Bd.bytes
  have hml : c.maxLocals = 1 := hml0
  have hown : s.vm.findClass "com/example/seqlint/seqlint/kafka/Batch" = some m.cls := findClass_of_methodNamed Bd.named
  have hnm := (name_of_methodNamed Bd.named Bd.method).1
  have X0 : Stand p l e ({ frames := 1, cells := 0, slots := 0, locals := 12 } : Room) s m #[(.ref a1)] below meth c s₁ [] 0 0 := Stand.of_body Bd
  have e0 : s₁.heap = h0 := by rw [← hh, Bd.state]; rfl
  have N0 := Fr.nil n0
  show Goes p e below s (Q_rm1 Z a1 h0 n0) ({ frames := 1, cells := 0, slots := 0, locals := 12 } : Room).cells ({ frames := 1, cells := 0, slots := 0, locals := 12 } : Room).slots (s₁.setTop (entryFrame m #[(.ref a1)] 1))
  refine Goes.pre (fun t kt => castTop (ef_rm1 m a1) kt) ?_
  show Goes p e below s _ _ _ (s₁.setTop (mkF m 0 #[.val (.ref a1)] []))
  refine Goes.pre (fun t kt => XS.aloadN X0.here hx rfl (hb hby d1_0) rfl rfl kt) ?_
  show Goes p e below s _ _ _ (s₁.setTop (mkF m 1 #[.val (.ref a1)] [(.ref a1)]))
  obtain ⟨T1, X1, e1, st1⟩ := initO X0 hx hZ hown (hw _ (List.mem_of_getElem? (i := 6) rfl)) (hw _ (List.mem_of_getElem? (i := 7) rfl)) (hw _ (List.mem_of_getElem? (i := 8) rfl)) e0 (g := (mkF m 1 #[.val (.ref a1)] [(.ref a1)])) rfl (by rw [hml]; rfl) rfl (hb hby d1_1) (by decide) (W := 0) (by show 2 * 0 + _ ≤ _; exact Nat.le_of_eq rfl) (by decide)
  refine Goes.pre st1 ?_
  show Goes p e below s _ _ _ (T1.setTop (mkF m 4 #[.val (.ref a1)] []))
  refine Goes.ret X1 none (fun _ => rfl) (BodyLoose.notSynchronized Bd) (by decide) (by decide) (fun fs hr => X1.returnOut hx Bd.returns (hb hby d1_4) hr) ?_
  show Q_rm1 Z a1 h0 n0 _ T1.heap _
  rw [e1]
  exact ⟨rfl, N0, rfl⟩
theorem d4_0 : decode prog_49_method_2_code 0 = .ok (.aload_n 0, 1) := by decide +kernel
theorem d4_1 : decode prog_49_method_2_code 1 = .ok (.lload_n 1, 1) := by decide +kernel
theorem d4_2 : decode prog_49_method_2_code 2 = .ok (.putfield 7, 3) := by decide +kernel
theorem d4_5 : decode prog_49_method_2_code 5 = .ok (.aload_n 0, 1) := by decide +kernel
theorem d4_6 : decode prog_49_method_2_code 6 = .ok (.lload_n 3, 1) := by decide +kernel
theorem d4_7 : decode prog_49_method_2_code 7 = .ok (.putfield 13, 3) := by decide +kernel
theorem d4_10 : decode prog_49_method_2_code 10 = .ok (.aload_n 0, 1) := by decide +kernel
theorem d4_11 : decode prog_49_method_2_code 11 = .ok (.iload 5, 2) := by decide +kernel
theorem d4_13 : decode prog_49_method_2_code 13 = .ok (.putfield 16, 3) := by decide +kernel
theorem d4_16 : decode prog_49_method_2_code 16 = .ok (.aload_n 0, 1) := by decide +kernel
theorem d4_17 : decode prog_49_method_2_code 17 = .ok (.lload 6, 2) := by decide +kernel
theorem d4_19 : decode prog_49_method_2_code 19 = .ok (.putfield 20, 3) := by decide +kernel
theorem d4_22 : decode prog_49_method_2_code 22 = .ok (.aload_n 0, 1) := by decide +kernel
theorem d4_23 : decode prog_49_method_2_code 23 = .ok (.ldc2_w 23, 3) := by decide +kernel
theorem d4_26 : decode prog_49_method_2_code 26 = .ok (.putfield 25, 3) := by decide +kernel
theorem d4_29 : decode prog_49_method_2_code 29 = .ok (.aload_n 0, 1) := by decide +kernel
theorem d4_30 : decode prog_49_method_2_code 30 = .ok (.iload 8, 2) := by decide +kernel
theorem d4_32 : decode prog_49_method_2_code 32 = .ok (.putfield 28, 3) := by decide +kernel
theorem d4_35 : decode prog_49_method_2_code 35 = .ok (.aload_n 0, 1) := by decide +kernel
theorem d4_36 : decode prog_49_method_2_code 36 = .ok (.iload 9, 2) := by decide +kernel
theorem d4_38 : decode prog_49_method_2_code 38 = .ok (.putfield 32, 3) := by decide +kernel
theorem d4_41 : decode prog_49_method_2_code 41 = .ok (.aload_n 0, 1) := by decide +kernel
theorem d4_42 : decode prog_49_method_2_code 42 = .ok (.lload 10, 2) := by decide +kernel
theorem d4_44 : decode prog_49_method_2_code 44 = .ok (.putfield 35, 3) := by decide +kernel
theorem d4_47 : decode prog_49_method_2_code 47 = .ok (.aload_n 0, 1) := by decide +kernel
theorem d4_48 : decode prog_49_method_2_code 48 = .ok (.lload 12, 2) := by decide +kernel
theorem d4_50 : decode prog_49_method_2_code 50 = .ok (.putfield 38, 3) := by decide +kernel
theorem d4_53 : decode prog_49_method_2_code 53 = .ok (.aload_n 0, 1) := by decide +kernel
theorem d4_54 : decode prog_49_method_2_code 54 = .ok (.lload 14, 2) := by decide +kernel
theorem d4_56 : decode prog_49_method_2_code 56 = .ok (.putfield 41, 3) := by decide +kernel
theorem d4_59 : decode prog_49_method_2_code 59 = .ok (.aload_n 0, 1) := by decide +kernel
theorem d4_60 : decode prog_49_method_2_code 60 = .ok (.iload 16, 2) := by decide +kernel
theorem d4_62 : decode prog_49_method_2_code 62 = .ok (.putfield 44, 3) := by decide +kernel
theorem d4_65 : decode prog_49_method_2_code 65 = .ok (.aload_n 0, 1) := by decide +kernel
theorem d4_66 : decode prog_49_method_2_code 66 = .ok (.iload 17, 2) := by decide +kernel
theorem d4_68 : decode prog_49_method_2_code 68 = .ok (.putfield 47, 3) := by decide +kernel
theorem d4_71 : decode prog_49_method_2_code 71 = .ok (.aload_n 0, 1) := by decide +kernel
theorem d4_72 : decode prog_49_method_2_code 72 = .ok (.iload 18, 2) := by decide +kernel
theorem d4_74 : decode prog_49_method_2_code 74 = .ok (.putfield 50, 3) := by decide +kernel
theorem d4_77 : decode prog_49_method_2_code 77 = .ok (.aload_n 0, 1) := by decide +kernel
theorem d4_78 : decode prog_49_method_2_code 78 = .ok (.aconst_null, 1) := by decide +kernel
theorem d4_79 : decode prog_49_method_2_code 79 = .ok (.putfield 53, 3) := by decide +kernel
theorem d4_82 : decode prog_49_method_2_code 82 = .ok (.return_, 1) := by decide +kernel
def Q_rmset (Z : State) (a1 : Addr) (q2 : Int64) (q3 : Int64) (p4 : Int32) (q5 : Int64) (p6 : Int32) (p7 : Int32) (q8 : Int64) (q9 : Int64) (q10 : Int64) (p11 : Int32) (p12 : Int32) (p13 : Int32) (u_position : Value) (u_baseOffset : Value) (u_leaderEpoch : Value) (u_storedCrc : Value) (u_computedCrc : Value) (u_attributes : Value) (u_lastOffsetDelta : Value) (u_firstTimestamp : Value) (u_maxTimestamp : Value) (u_producerId : Value) (u_producerEpoch : Value) (u_baseSequence : Value) (u_recordCount : Value) (u_marker : Value) (h0 : Heap) (n0 : Nat) (v : Option Value) (h : Heap) (L : List Loc) : Prop := v = none ∧ Fr n0 L ∧ Keep h0 h [a1] ∧ (Fld Z h a1 "com/example/seqlint/seqlint/kafka/Batch" "position" "J" (.long q2)) ∧ (Fld Z h a1 "com/example/seqlint/seqlint/kafka/Batch" "baseOffset" "J" (.long q3)) ∧ (Fld Z h a1 "com/example/seqlint/seqlint/kafka/Batch" "leaderEpoch" "I" (.int p4)) ∧ (Fld Z h a1 "com/example/seqlint/seqlint/kafka/Batch" "storedCrc" "J" (.long q5)) ∧ (Fld Z h a1 "com/example/seqlint/seqlint/kafka/Batch" "computedCrc" "J" (.long (-1 : Int64))) ∧ (Fld Z h a1 "com/example/seqlint/seqlint/kafka/Batch" "attributes" "S" (.int p6)) ∧ (Fld Z h a1 "com/example/seqlint/seqlint/kafka/Batch" "lastOffsetDelta" "I" (.int p7)) ∧ (Fld Z h a1 "com/example/seqlint/seqlint/kafka/Batch" "firstTimestamp" "J" (.long q8)) ∧ (Fld Z h a1 "com/example/seqlint/seqlint/kafka/Batch" "maxTimestamp" "J" (.long q9)) ∧ (Fld Z h a1 "com/example/seqlint/seqlint/kafka/Batch" "producerId" "J" (.long q10)) ∧ (Fld Z h a1 "com/example/seqlint/seqlint/kafka/Batch" "producerEpoch" "S" (.int p11)) ∧ (Fld Z h a1 "com/example/seqlint/seqlint/kafka/Batch" "baseSequence" "I" (.int p12)) ∧ (Fld Z h a1 "com/example/seqlint/seqlint/kafka/Batch" "recordCount" "I" (.int p13)) ∧ (Fld Z h a1 "com/example/seqlint/seqlint/kafka/Batch" "marker" "Lcom/example/seqlint/seqlint/kafka/Batch$Marker;" .null)
theorem ef_rmset (m : MethodId) (a1 : Addr) (q2 : Int64) (q3 : Int64) (p4 : Int32) (q5 : Int64) (p6 : Int32) (p7 : Int32) (q8 : Int64) (q9 : Int64) (q10 : Int64) (p11 : Int32) (p12 : Int32) (p13 : Int32) : entryFrame m #[(.ref a1), (.long q2), (.long q3), (.int p4), (.long q5), (.int p6), (.int p7), (.long q8), (.long q9), (.long q10), (.int p11), (.int p12), (.int p13)] 19 = mkF m 0 #[.val (.ref a1), .val (.long q2), .second, .val (.long q3), .second, .val (.int p4), .val (.long q5), .second, .val (.int p6), .val (.int p7), .val (.long q8), .second, .val (.long q9), .second, .val (.long q10), .second, .val (.int p11), .val (.int p12), .val (.int p13)] [] := by first | (simp [entryFrame, mkF, argsToLocals, Value.category]; done) | rfl
set_option maxRecDepth 65536 in
set_option maxHeartbeats 40000000 in
theorem rmset (l : Launch) (Z : State) (a0 : Array Value) (hw : ∀ d ∈ tables_1, d.before a0 Z = true) (ws : List Jvm.Cond) (a1 : Addr) (q2 : Int64) (q3 : Int64) (p4 : Int32) (q5 : Int64) (p6 : Int32) (p7 : Int32) (q8 : Int64) (q9 : Int64) (q10 : Int64) (p11 : Int32) (p12 : Int32) (p13 : Int32) (u_position : Value) (u_baseOffset : Value) (u_leaderEpoch : Value) (u_storedCrc : Value) (u_computedCrc : Value) (u_attributes : Value) (u_lastOffsetDelta : Value) (u_firstTimestamp : Value) (u_maxTimestamp : Value) (u_producerId : Value) (u_producerEpoch : Value) (u_baseSequence : Value) (u_recordCount : Value) (u_marker : Value) (h0 : Heap) (n0 : Nat) (Z0 : n0 ≤ h0.size) (pf_E_a1 : Exa Z h0 a1 "com/example/seqlint/seqlint/kafka/Batch") (pf_G_a1 : n0 ≤ a1) (hs6 : p6.toInt16.toInt32 = p6) (hs11 : p11.toInt16.toInt32 = p11) (pf_F_a1_com_example_seqlint_seqlint_kafka_Batch_position : Fld Z h0 a1 "com/example/seqlint/seqlint/kafka/Batch" "position" "J" u_position) (pf_F_a1_com_example_seqlint_seqlint_kafka_Batch_baseOffset : Fld Z h0 a1 "com/example/seqlint/seqlint/kafka/Batch" "baseOffset" "J" u_baseOffset) (pf_F_a1_com_example_seqlint_seqlint_kafka_Batch_leaderEpoch : Fld Z h0 a1 "com/example/seqlint/seqlint/kafka/Batch" "leaderEpoch" "I" u_leaderEpoch) (pf_F_a1_com_example_seqlint_seqlint_kafka_Batch_storedCrc : Fld Z h0 a1 "com/example/seqlint/seqlint/kafka/Batch" "storedCrc" "J" u_storedCrc) (pf_F_a1_com_example_seqlint_seqlint_kafka_Batch_computedCrc : Fld Z h0 a1 "com/example/seqlint/seqlint/kafka/Batch" "computedCrc" "J" u_computedCrc) (pf_F_a1_com_example_seqlint_seqlint_kafka_Batch_attributes : Fld Z h0 a1 "com/example/seqlint/seqlint/kafka/Batch" "attributes" "S" u_attributes) (pf_F_a1_com_example_seqlint_seqlint_kafka_Batch_lastOffsetDelta : Fld Z h0 a1 "com/example/seqlint/seqlint/kafka/Batch" "lastOffsetDelta" "I" u_lastOffsetDelta) (pf_F_a1_com_example_seqlint_seqlint_kafka_Batch_firstTimestamp : Fld Z h0 a1 "com/example/seqlint/seqlint/kafka/Batch" "firstTimestamp" "J" u_firstTimestamp) (pf_F_a1_com_example_seqlint_seqlint_kafka_Batch_maxTimestamp : Fld Z h0 a1 "com/example/seqlint/seqlint/kafka/Batch" "maxTimestamp" "J" u_maxTimestamp) (pf_F_a1_com_example_seqlint_seqlint_kafka_Batch_producerId : Fld Z h0 a1 "com/example/seqlint/seqlint/kafka/Batch" "producerId" "J" u_producerId) (pf_F_a1_com_example_seqlint_seqlint_kafka_Batch_producerEpoch : Fld Z h0 a1 "com/example/seqlint/seqlint/kafka/Batch" "producerEpoch" "S" u_producerEpoch) (pf_F_a1_com_example_seqlint_seqlint_kafka_Batch_baseSequence : Fld Z h0 a1 "com/example/seqlint/seqlint/kafka/Batch" "baseSequence" "I" u_baseSequence) (pf_F_a1_com_example_seqlint_seqlint_kafka_Batch_recordCount : Fld Z h0 a1 "com/example/seqlint/seqlint/kafka/Batch" "recordCount" "I" u_recordCount) (pf_F_a1_com_example_seqlint_seqlint_kafka_Batch_marker : Fld Z h0 a1 "com/example/seqlint/seqlint/kafka/Batch" "marker" "Lcom/example/seqlint/seqlint/kafka/Batch$Marker;" u_marker) :
    MetFree l (⟨"com/example/seqlint/seqlint/kafka/Batch", "set", "(JJIJSIJJJSII)V"⟩ : MethodName) (head1 (Jvm.Cond.code (⟨"com/example/seqlint/seqlint/kafka/Batch", "set", "(JJIJSIJJJSII)V"⟩ : MethodName) prog_49_method_2_code 19 none :: ws) ({ frames := 0, cells := 0, slots := 0, locals := 0 } : Room)) (fun a U => a = #[(.ref a1), (.long q2), (.long q3), (.int p4), (.long q5), (.int p6), (.int p7), (.long q8), (.long q9), (.long q10), (.int p11), (.int p12), (.int p13)] ∧ Z.Warmed39 U.vm ∧ U.heap = h0) (fun _ _ _ _ _ => True) (fun _ U o U' => ∃ v L, o = .returned v ∧ Q_rmset Z a1 q2 q3 p4 q5 p6 p7 q8 q9 q10 p11 p12 p13 u_position u_baseOffset u_leaderEpoch u_storedCrc u_computedCrc u_attributes u_lastOffsetDelta u_firstTimestamp u_maxTimestamp u_producerId u_producerEpoch u_baseSequence u_recordCount u_marker h0 n0 v U'.heap L ∧ FrameEnd U o U' L ({ frames := 0, cells := 0, slots := 0, locals := 0 } : Room).cells ({ frames := 0, cells := 0, slots := 0, locals := 0 } : Room).slots) := by
  refine MetFree.of_bodySF (plainFor_of_name pn_0) hisR ?_
  intro p e s m args below meth c s₁ Bd hml0 hP hK
  obtain ⟨rfl, hZ, hh⟩ := hP
  have hx := Bd.exec
  have hby := Bd.bytes
  have hml : c.maxLocals = 19 := hml0
  have hown : s.vm.findClass "com/example/seqlint/seqlint/kafka/Batch" = some m.cls := findClass_of_methodNamed Bd.named
  have hnm := (name_of_methodNamed Bd.named Bd.method).1
  have X0 : Stand p l e ({ frames := 0, cells := 0, slots := 0, locals := 0 } : Room) s m #[(.ref a1), (.long q2), (.long q3), (.int p4), (.long q5), (.int p6), (.int p7), (.long q8), (.long q9), (.long q10), (.int p11), (.int p12), (.int p13)] below meth c s₁ [] 0 0 := Stand.of_body Bd
  have e0 : s₁.heap = h0 := by rw [← hh, Bd.state]; rfl
  have N0 := Fr.nil n0
  have K0 := Keep.refl h0 [a1]
  show Goes p e below s (Q_rmset Z a1 q2 q3 p4 q5 p6 p7 q8 q9 q10 p11 p12 p13 u_position u_baseOffset u_leaderEpoch u_storedCrc u_computedCrc u_attributes u_lastOffsetDelta u_firstTimestamp u_maxTimestamp u_producerId u_producerEpoch u_baseSequence u_recordCount u_marker h0 n0) ({ frames := 0, cells := 0, slots := 0, locals := 0 } : Room).cells ({ frames := 0, cells := 0, slots := 0, locals := 0 } : Room).slots (s₁.setTop (entryFrame m #[(.ref a1), (.long q2), (.long q3), (.int p4), (.long q5), (.int p6), (.int p7), (.long q8), (.long q9), (.long q10), (.int p11), (.int p12), (.int p13)] 19))
  refine Goes.pre (fun t kt => castTop (ef_rmset m a1 q2 q3 p4 q5 p6 p7 q8 q9 q10 p11 p12 p13) kt) ?_
  show Goes p e below s _ _ _ (s₁.setTop (mkF m 0 #[.val (.ref a1), .val (.long q2), .second, .val (.long q3), .second, .val (.int p4), .val (.long q5), .second, .val (.int p6), .val (.int p7), .val (.long q8), .second, .val (.long q9), .second, .val (.long q10), .second, .val (.int p11), .val (.int p12), .val (.int p13)] []))
  refine Goes.pre (fun t kt => XS.aloadN X0.here hx rfl (hb hby d4_0) rfl rfl kt) ?_
  show Goes p e below s _ _ _ (s₁.setTop (mkF m 1 #[.val (.ref a1), .val (.long q2), .second, .val (.long q3), .second, .val (.int p4), .val (.long q5), .second, .val (.int p6), .val (.int p7), .val (.long q8), .second, .val (.long q9), .second, .val (.long q10), .second, .val (.int p11), .val (.int p12), .val (.int p13)] [(.ref a1)]))
  refine Goes.pre (fun t kt => XS.lloadN X0.here hx rfl (hb hby d4_1) rfl kt) ?_
  show Goes p e below s _ _ _ (s₁.setTop (mkF m 2 #[.val (.ref a1), .val (.long q2), .second, .val (.long q3), .second, .val (.int p4), .val (.long q5), .second, .val (.int p6), .val (.int p7), .val (.long q8), .second, .val (.long q9), .second, .val (.long q10), .second, .val (.int p11), .val (.int p12), .val (.int p13)] [(.long q2), (.ref a1)]))
  obtain ⟨T1, h1, X1, e1, W1, st1⟩ := putF X0 hx hZ hown (host := "") (Or.inl (hw _ (List.mem_of_getElem? (i := 26) rfl))) Via.refl e0 pf_F_a1_com_example_seqlint_seqlint_kafka_Batch_position pf_E_a1 (Or.inl (hw _ (List.mem_of_getElem? (i := 27) rfl))) (hw _ (List.mem_of_getElem? (i := 1) rfl)) (ty := .long) (by decide) rfl rfl (g := (mkF m 2 #[.val (.ref a1), .val (.long q2), .second, .val (.long q3), .second, .val (.int p4), .val (.long q5), .second, .val (.int p6), .val (.int p7), .val (.long q8), .second, .val (.long q9), .second, .val (.long q10), .second, .val (.int p11), .val (.int p12), .val (.int p13)] [(.long q2), (.ref a1)])) rfl rfl (hb hby d4_2)
  refine Goes.pre st1 ?_
  have Z1 : n0 ≤ h1.size := Nat.le_trans Z0 (Keep.of_wr W1).1
  have N1 := Fr.snoc X1 N0 pf_G_a1
  have K1 := K0.wr W1 (Or.inl (List.mem_of_getElem? (i := 0) rfl))
  have Fw1 : Fld Z h1 a1 "com/example/seqlint/seqlint/kafka/Batch" "position" "J" (.long q2) := pf_F_a1_com_example_seqlint_seqlint_kafka_Batch_position.same W1
  show Goes p e below s _ _ _ (T1.setTop (mkF m 5 #[.val (.ref a1), .val (.long q2), .second, .val (.long q3), .second, .val (.int p4), .val (.long q5), .second, .val (.int p6), .val (.int p7), .val (.long q8), .second, .val (.long q9), .second, .val (.long q10), .second, .val (.int p11), .val (.int p12), .val (.int p13)] []))
  refine Goes.pre (fun t kt => XS.aloadN X1.here hx rfl (hb hby d4_5) rfl rfl kt) ?_
  show Goes p e below s _ _ _ (T1.setTop (mkF m 6 #[.val (.ref a1), .val (.long q2), .second, .val (.long q3), .second, .val (.int p4), .val (.long q5), .second, .val (.int p6), .val (.int p7), .val (.long q8), .second, .val (.long q9), .second, .val (.long q10), .second, .val (.int p11), .val (.int p12), .val (.int p13)] [(.ref a1)]))
  refine Goes.pre (fun t kt => XS.lloadN X1.here hx rfl (hb hby d4_6) rfl kt) ?_
  show Goes p e below s _ _ _ (T1.setTop (mkF m 7 #[.val (.ref a1), .val (.long q2), .second, .val (.long q3), .second, .val (.int p4), .val (.long q5), .second, .val (.int p6), .val (.int p7), .val (.long q8), .second, .val (.long q9), .second, .val (.long q10), .second, .val (.int p11), .val (.int p12), .val (.int p13)] [(.long q3), (.ref a1)]))
  have fc2 : Fld Z h1 a1 "com/example/seqlint/seqlint/kafka/Batch" "baseOffset" "J" u_baseOffset := (pf_F_a1_com_example_seqlint_seqlint_kafka_Batch_baseOffset.other W1 (Or.inr (slot_ne (Or.inl (hw _ (List.mem_of_getElem? (i := 29) rfl))) (Or.inl (hw _ (List.mem_of_getElem? (i := 27) rfl))) (by decide) (t := .long) (t' := .long) (by decide) (by decide))))
  have fc3 : Exa Z h1 a1 "com/example/seqlint/seqlint/kafka/Batch" := (pf_E_a1.wr W1)
  obtain ⟨T4, h4, X4, e4, W4, st4⟩ := putF X1 hx hZ hown (host := "") (Or.inl (hw _ (List.mem_of_getElem? (i := 28) rfl))) Via.refl e1 fc2 fc3 (Or.inl (hw _ (List.mem_of_getElem? (i := 29) rfl))) (hw _ (List.mem_of_getElem? (i := 1) rfl)) (ty := .long) (by decide) rfl rfl (g := (mkF m 7 #[.val (.ref a1), .val (.long q2), .second, .val (.long q3), .second, .val (.int p4), .val (.long q5), .second, .val (.int p6), .val (.int p7), .val (.long q8), .second, .val (.long q9), .second, .val (.long q10), .second, .val (.int p11), .val (.int p12), .val (.int p13)] [(.long q3), (.ref a1)])) rfl rfl (hb hby d4_7)
  refine Goes.pre st4 ?_
  have Z4 : n0 ≤ h4.size := Nat.le_trans Z1 (Keep.of_wr W4).1
  have N4 := Fr.snoc X4 N1 pf_G_a1
  have K4 := K1.wr W4 (Or.inl (List.mem_of_getElem? (i := 0) rfl))
  have Fw4 : Fld Z h4 a1 "com/example/seqlint/seqlint/kafka/Batch" "baseOffset" "J" (.long q3) := fc2.same W4
  show Goes p e below s _ _ _ (T4.setTop (mkF m 10 #[.val (.ref a1), .val (.long q2), .second, .val (.long q3), .second, .val (.int p4), .val (.long q5), .second, .val (.int p6), .val (.int p7), .val (.long q8), .second, .val (.long q9), .second, .val (.long q10), .second, .val (.int p11), .val (.int p12), .val (.int p13)] []))
  refine Goes.pre (fun t kt => XS.aloadN X4.here hx rfl (hb hby d4_10) rfl rfl kt) ?_
  show Goes p e below s _ _ _ (T4.setTop (mkF m 11 #[.val (.ref a1), .val (.long q2), .second, .val (.long q3), .second, .val (.int p4), .val (.long q5), .second, .val (.int p6), .val (.int p7), .val (.long q8), .second, .val (.long q9), .second, .val (.long q10), .second, .val (.int p11), .val (.int p12), .val (.int p13)] [(.ref a1)]))
  refine Goes.pre (fun t kt => XS.iload X4.here hx rfl (hb hby d4_11) rfl kt) ?_
  show Goes p e below s _ _ _ (T4.setTop (mkF m 13 #[.val (.ref a1), .val (.long q2), .second, .val (.long q3), .second, .val (.int p4), .val (.long q5), .second, .val (.int p6), .val (.int p7), .val (.long q8), .second, .val (.long q9), .second, .val (.long q10), .second, .val (.int p11), .val (.int p12), .val (.int p13)] [(.int p4), (.ref a1)]))
  have fc5 : Fld Z h4 a1 "com/example/seqlint/seqlint/kafka/Batch" "leaderEpoch" "I" u_leaderEpoch := ((pf_F_a1_com_example_seqlint_seqlint_kafka_Batch_leaderEpoch.other W1 (Or.inr (slot_ne (Or.inl (hw _ (List.mem_of_getElem? (i := 31) rfl))) (Or.inl (hw _ (List.mem_of_getElem? (i := 27) rfl))) (by decide) (t := .int) (t' := .long) (by decide) (by decide)))).other W4 (Or.inr (slot_ne (Or.inl (hw _ (List.mem_of_getElem? (i := 31) rfl))) (Or.inl (hw _ (List.mem_of_getElem? (i := 29) rfl))) (by decide) (t := .int) (t' := .long) (by decide) (by decide))))
  have fc6 : Exa Z h4 a1 "com/example/seqlint/seqlint/kafka/Batch" := (fc3.wr W4)
  obtain ⟨T7, h7, X7, e7, W7, st7⟩ := putF X4 hx hZ hown (host := "") (Or.inl (hw _ (List.mem_of_getElem? (i := 30) rfl))) Via.refl e4 fc5 fc6 (Or.inl (hw _ (List.mem_of_getElem? (i := 31) rfl))) (hw _ (List.mem_of_getElem? (i := 1) rfl)) (ty := .int) (by decide) rfl rfl (g := (mkF m 13 #[.val (.ref a1), .val (.long q2), .second, .val (.long q3), .second, .val (.int p4), .val (.long q5), .second, .val (.int p6), .val (.int p7), .val (.long q8), .second, .val (.long q9), .second, .val (.long q10), .second, .val (.int p11), .val (.int p12), .val (.int p13)] [(.int p4), (.ref a1)])) rfl rfl (hb hby d4_13)
  refine Goes.pre st7 ?_
  have Z7 : n0 ≤ h7.size := Nat.le_trans Z4 (Keep.of_wr W7).1
  have N7 := Fr.snoc X7 N4 pf_G_a1
  have K7 := K4.wr W7 (Or.inl (List.mem_of_getElem? (i := 0) rfl))
  have Fw7 : Fld Z h7 a1 "com/example/seqlint/seqlint/kafka/Batch" "leaderEpoch" "I" (.int p4) := fc5.same W7
  show Goes p e below s _ _ _ (T7.setTop (mkF m 16 #[.val (.ref a1), .val (.long q2), .second, .val (.long q3), .second, .val (.int p4), .val (.long q5), .second, .val (.int p6), .val (.int p7), .val (.long q8), .second, .val (.long q9), .second, .val (.long q10), .second, .val (.int p11), .val (.int p12), .val (.int p13)] []))
  refine Goes.pre (fun t kt => XS.aloadN X7.here hx rfl (hb hby d4_16) rfl rfl kt) ?_
  show Goes p e below s _ _ _ (T7.setTop (mkF m 17 #[.val (.ref a1), .val (.long q2), .second, .val (.long q3), .second, .val (.int p4), .val (.long q5), .second, .val (.int p6), .val (.int p7), .val (.long q8), .second, .val (.long q9), .second, .val (.long q10), .second, .val (.int p11), .val (.int p12), .val (.int p13)] [(.ref a1)]))
  refine Goes.pre (fun t kt => XS.lload X7.here hx rfl (hb hby d4_17) rfl kt) ?_
  show Goes p e below s _ _ _ (T7.setTop (mkF m 19 #[.val (.ref a1), .val (.long q2), .second, .val (.long q3), .second, .val (.int p4), .val (.long q5), .second, .val (.int p6), .val (.int p7), .val (.long q8), .second, .val (.long q9), .second, .val (.long q10), .second, .val (.int p11), .val (.int p12), .val (.int p13)] [(.long q5), (.ref a1)]))
  have fc8 : Fld Z h7 a1 "com/example/seqlint/seqlint/kafka/Batch" "storedCrc" "J" u_storedCrc := (((pf_F_a1_com_example_seqlint_seqlint_kafka_Batch_storedCrc.other W1 (Or.inr (slot_ne (Or.inl (hw _ (List.mem_of_getElem? (i := 33) rfl))) (Or.inl (hw _ (List.mem_of_getElem? (i := 27) rfl))) (by decide) (t := .long) (t' := .long) (by decide) (by decide)))).other W4 (Or.inr (slot_ne (Or.inl (hw _ (List.mem_of_getElem? (i := 33) rfl))) (Or.inl (hw _ (List.mem_of_getElem? (i := 29) rfl))) (by decide) (t := .long) (t' := .long) (by decide) (by decide)))).other W7 (Or.inr (slot_ne (Or.inl (hw _ (List.mem_of_getElem? (i := 33) rfl))) (Or.inl (hw _ (List.mem_of_getElem? (i := 31) rfl))) (by decide) (t := .long) (t' := .int) (by decide) (by decide))))
  have fc9 : Exa Z h7 a1 "com/example/seqlint/seqlint/kafka/Batch" := (fc6.wr W7)
  obtain ⟨T10, h10, X10, e10, W10, st10⟩ := putF X7 hx hZ hown (host := "") (Or.inl (hw _ (List.mem_of_getElem? (i := 32) rfl))) Via.refl e7 fc8 fc9 (Or.inl (hw _ (List.mem_of_getElem? (i := 33) rfl))) (hw _ (List.mem_of_getElem? (i := 1) rfl)) (ty := .long) (by decide) rfl rfl (g := (mkF m 19 #[.val (.ref a1), .val (.long q2), .second, .val (.long q3), .second, .val (.int p4), .val (.long q5), .second, .val (.int p6), .val (.int p7), .val (.long q8), .second, .val (.long q9), .second, .val (.long q10), .second, .val (.int p11), .val (.int p12), .val (.int p13)] [(.long q5), (.ref a1)])) rfl rfl (hb hby d4_19)
  refine Goes.pre st10 ?_
  have Z10 : n0 ≤ h10.size := Nat.le_trans Z7 (Keep.of_wr W10).1
  have N10 := Fr.snoc X10 N7 pf_G_a1
  have K10 := K7.wr W10 (Or.inl (List.mem_of_getElem? (i := 0) rfl))
  have Fw10 : Fld Z h10 a1 "com/example/seqlint/seqlint/kafka/Batch" "storedCrc" "J" (.long q5) := fc8.same W10
  show Goes p e below s _ _ _ (T10.setTop (mkF m 22 #[.val (.ref a1), .val (.long q2), .second, .val (.long q3), .second, .val (.int p4), .val (.long q5), .second, .val (.int p6), .val (.int p7), .val (.long q8), .second, .val (.long q9), .second, .val (.long q10), .second, .val (.int p11), .val (.int p12), .val (.int p13)] []))
  refine Goes.pre (fun t kt => XS.aloadN X10.here hx rfl (hb hby d4_22) rfl rfl kt) ?_
  show Goes p e below s _ _ _ (T10.setTop (mkF m 23 #[.val (.ref a1), .val (.long q2), .second, .val (.long q3), .second, .val (.int p4), .val (.long q5), .second, .val (.int p6), .val (.int p7), .val (.long q8), .second, .val (.long q9), .second, .val (.long q10), .second, .val (.int p11), .val (.int p12), .val (.int p13)] [(.ref a1)]))
  refine Goes.pre (X10.ldc2Long hx hown (mvT hZ (hw _ (List.mem_of_getElem? (i := 34) rfl))) (g := (mkF m 23 #[.val (.ref a1), .val (.long q2), .second, .val (.long q3), .second, .val (.int p4), .val (.long q5), .second, .val (.int p6), .val (.int p7), .val (.long q8), .second, .val (.long q9), .second, .val (.long q10), .second, .val (.int p11), .val (.int p12), .val (.int p13)] [(.ref a1)])) rfl (hb hby d4_23)) ?_
  show Goes p e below s _ _ _ (T10.setTop (mkF m 26 #[.val (.ref a1), .val (.long q2), .second, .val (.long q3), .second, .val (.int p4), .val (.long q5), .second, .val (.int p6), .val (.int p7), .val (.long q8), .second, .val (.long q9), .second, .val (.long q10), .second, .val (.int p11), .val (.int p12), .val (.int p13)] [(.long (-1 : Int64)), (.ref a1)]))
  have fc11 : Fld Z h10 a1 "com/example/seqlint/seqlint/kafka/Batch" "computedCrc" "J" u_computedCrc := ((((pf_F_a1_com_example_seqlint_seqlint_kafka_Batch_computedCrc.other W1 (Or.inr (slot_ne (Or.inl (hw _ (List.mem_of_getElem? (i := 18) rfl))) (Or.inl (hw _ (List.mem_of_getElem? (i := 27) rfl))) (by decide) (t := .long) (t' := .long) (by decide) (by decide)))).other W4 (Or.inr (slot_ne (Or.inl (hw _ (List.mem_of_getElem? (i := 18) rfl))) (Or.inl (hw _ (List.mem_of_getElem? (i := 29) rfl))) (by decide) (t := .long) (t' := .long) (by decide) (by decide)))).other W7 (Or.inr (slot_ne (Or.inl (hw _ (List.mem_of_getElem? (i := 18) rfl))) (Or.inl (hw _ (List.mem_of_getElem? (i := 31) rfl))) (by decide) (t := .long) (t' := .int) (by decide) (by decide)))).other W10 (Or.inr (slot_ne (Or.inl (hw _ (List.mem_of_getElem? (i := 18) rfl))) (Or.inl (hw _ (List.mem_of_getElem? (i := 33) rfl))) (by decide) (t := .long) (t' := .long) (by decide) (by decide))))
  have fc12 : Exa Z h10 a1 "com/example/seqlint/seqlint/kafka/Batch" := (fc9.wr W10)
  obtain ⟨T13, h13, X13, e13, W13, st13⟩ := putF X10 hx hZ hown (host := "") (Or.inl (hw _ (List.mem_of_getElem? (i := 17) rfl))) Via.refl e10 fc11 fc12 (Or.inl (hw _ (List.mem_of_getElem? (i := 18) rfl))) (hw _ (List.mem_of_getElem? (i := 1) rfl)) (ty := .long) (by decide) rfl rfl (g := (mkF m 26 #[.val (.ref a1), .val (.long q2), .second, .val (.long q3), .second, .val (.int p4), .val (.long q5), .second, .val (.int p6), .val (.int p7), .val (.long q8), .second, .val (.long q9), .second, .val (.long q10), .second, .val (.int p11), .val (.int p12), .val (.int p13)] [(.long (-1 : Int64)), (.ref a1)])) rfl rfl (hb hby d4_26)
  refine Goes.pre st13 ?_
  have Z13 : n0 ≤ h13.size := Nat.le_trans Z10 (Keep.of_wr W13).1
  have N13 := Fr.snoc X13 N10 pf_G_a1
  have K13 := K10.wr W13 (Or.inl (List.mem_of_getElem? (i := 0) rfl))
  have Fw13 : Fld Z h13 a1 "com/example/seqlint/seqlint/kafka/Batch" "computedCrc" "J" (.long (-1 : Int64)) := fc11.same W13
  show Goes p e below s _ _ _ (T13.setTop (mkF m 29 #[.val (.ref a1), .val (.long q2), .second, .val (.long q3), .second, .val (.int p4), .val (.long q5), .second, .val (.int p6), .val (.int p7), .val (.long q8), .second, .val (.long q9), .second, .val (.long q10), .second, .val (.int p11), .val (.int p12), .val (.int p13)] []))
  refine Goes.pre (fun t kt => XS.aloadN X13.here hx rfl (hb hby d4_29) rfl rfl kt) ?_
  show Goes p e below s _ _ _ (T13.setTop (mkF m 30 #[.val (.ref a1), .val (.long q2), .second, .val (.long q3), .second, .val (.int p4), .val (.long q5), .second, .val (.int p6), .val (.int p7), .val (.long q8), .second, .val (.long q9), .second, .val (.long q10), .second, .val (.int p11), .val (.int p12), .val (.int p13)] [(.ref a1)]))
  refine Goes.pre (fun t kt => XS.iload X13.here hx rfl (hb hby d4_30) rfl kt) ?_
  show Goes p e below s _ _ _ (T13.setTop (mkF m 32 #[.val (.ref a1), .val (.long q2), .second, .val (.long q3), .second, .val (.int p4), .val (.long q5), .second, .val (.int p6), .val (.int p7), .val (.long q8), .second, .val (.long q9), .second, .val (.long q10), .second, .val (.int p11), .val (.int p12), .val (.int p13)] [(.int p6), (.ref a1)]))
  have fc14 : Fld Z h13 a1 "com/example/seqlint/seqlint/kafka/Batch" "attributes" "S" u_attributes := (((((pf_F_a1_com_example_seqlint_seqlint_kafka_Batch_attributes.other W1 (Or.inr (slot_ne (Or.inl (hw _ (List.mem_of_getElem? (i := 36) rfl))) (Or.inl (hw _ (List.mem_of_getElem? (i := 27) rfl))) (by decide) (t := .short) (t' := .long) (by decide) (by decide)))).other W4 (Or.inr (slot_ne (Or.inl (hw _ (List.mem_of_getElem? (i := 36) rfl))) (Or.inl (hw _ (List.mem_of_getElem? (i := 29) rfl))) (by decide) (t := .short) (t' := .long) (by decide) (by decide)))).other W7 (Or.inr (slot_ne (Or.inl (hw _ (List.mem_of_getElem? (i := 36) rfl))) (Or.inl (hw _ (List.mem_of_getElem? (i := 31) rfl))) (by decide) (t := .short) (t' := .int) (by decide) (by decide)))).other W10 (Or.inr (slot_ne (Or.inl (hw _ (List.mem_of_getElem? (i := 36) rfl))) (Or.inl (hw _ (List.mem_of_getElem? (i := 33) rfl))) (by decide) (t := .short) (t' := .long) (by decide) (by decide)))).other W13 (Or.inr (slot_ne (Or.inl (hw _ (List.mem_of_getElem? (i := 36) rfl))) (Or.inl (hw _ (List.mem_of_getElem? (i := 18) rfl))) (by decide) (t := .short) (t' := .long) (by decide) (by decide))))
  have fc15 : Exa Z h13 a1 "com/example/seqlint/seqlint/kafka/Batch" := (fc12.wr W13)
  obtain ⟨T16, h16, X16, e16, W16, st16⟩ := putFN X13 hx hZ hown (hw _ (List.mem_of_getElem? (i := 35) rfl)) Via.refl e13 fc14 fc15 (Or.inl (hw _ (List.mem_of_getElem? (i := 36) rfl))) (hw _ (List.mem_of_getElem? (i := 1) rfl)) (ty := .short) (v' := (.int p6)) (by decide) (show narrow .short (.int p6) = (.int p6) from congrArg Value.int hs6) (own_fitS hs6) (g := (mkF m 32 #[.val (.ref a1), .val (.long q2), .second, .val (.long q3), .second, .val (.int p4), .val (.long q5), .second, .val (.int p6), .val (.int p7), .val (.long q8), .second, .val (.long q9), .second, .val (.long q10), .second, .val (.int p11), .val (.int p12), .val (.int p13)] [(.int p6), (.ref a1)])) rfl rfl (hb hby d4_32)
  refine Goes.pre st16 ?_
  have Z16 : n0 ≤ h16.size := Nat.le_trans Z13 (Keep.of_wr W16).1
  have N16 := Fr.snoc X16 N13 pf_G_a1
  have K16 := K13.wr W16 (Or.inl (List.mem_of_getElem? (i := 0) rfl))
  have Fw16 : Fld Z h16 a1 "com/example/seqlint/seqlint/kafka/Batch" "attributes" "S" (.int p6) := fc14.same W16
  show Goes p e below s _ _ _ (T16.setTop (mkF m 35 #[.val (.ref a1), .val (.long q2), .second, .val (.long q3), .second, .val (.int p4), .val (.long q5), .second, .val (.int p6), .val (.int p7), .val (.long q8), .second, .val (.long q9), .second, .val (.long q10), .second, .val (.int p11), .val (.int p12), .val (.int p13)] []))
  refine Goes.pre (fun t kt => XS.aloadN X16.here hx rfl (hb hby d4_35) rfl rfl kt) ?_
  show Goes p e below s _ _ _ (T16.setTop (mkF m 36 #[.val (.ref a1), .val (.long q2), .second, .val (.long q3), .second, .val (.int p4), .val (.long q5), .second, .val (.int p6), .val (.int p7), .val (.long q8), .second, .val (.long q9), .second, .val (.long q10), .second, .val (.int p11), .val (.int p12), .val (.int p13)] [(.ref a1)]))
  refine Goes.pre (fun t kt => XS.iload X16.here hx rfl (hb hby d4_36) rfl kt) ?_
  show Goes p e below s _ _ _ (T16.setTop (mkF m 38 #[.val (.ref a1), .val (.long q2), .second, .val (.long q3), .second, .val (.int p4), .val (.long q5), .second, .val (.int p6), .val (.int p7), .val (.long q8), .second, .val (.long q9), .second, .val (.long q10), .second, .val (.int p11), .val (.int p12), .val (.int p13)] [(.int p7), (.ref a1)]))
  have fc17 : Fld Z h16 a1 "com/example/seqlint/seqlint/kafka/Batch" "lastOffsetDelta" "I" u_lastOffsetDelta := ((((((pf_F_a1_com_example_seqlint_seqlint_kafka_Batch_lastOffsetDelta.other W1 (Or.inr (slot_ne (Or.inl (hw _ (List.mem_of_getElem? (i := 38) rfl))) (Or.inl (hw _ (List.mem_of_getElem? (i := 27) rfl))) (by decide) (t := .int) (t' := .long) (by decide) (by decide)))).other W4 (Or.inr (slot_ne (Or.inl (hw _ (List.mem_of_getElem? (i := 38) rfl))) (Or.inl (hw _ (List.mem_of_getElem? (i := 29) rfl))) (by decide) (t := .int) (t' := .long) (by decide) (by decide)))).other W7 (Or.inr (slot_ne (Or.inl (hw _ (List.mem_of_getElem? (i := 38) rfl))) (Or.inl (hw _ (List.mem_of_getElem? (i := 31) rfl))) (by decide) (t := .int) (t' := .int) (by decide) (by decide)))).other W10 (Or.inr (slot_ne (Or.inl (hw _ (List.mem_of_getElem? (i := 38) rfl))) (Or.inl (hw _ (List.mem_of_getElem? (i := 33) rfl))) (by decide) (t := .int) (t' := .long) (by decide) (by decide)))).other W13 (Or.inr (slot_ne (Or.inl (hw _ (List.mem_of_getElem? (i := 38) rfl))) (Or.inl (hw _ (List.mem_of_getElem? (i := 18) rfl))) (by decide) (t := .int) (t' := .long) (by decide) (by decide)))).other W16 (Or.inr (slot_ne (Or.inl (hw _ (List.mem_of_getElem? (i := 38) rfl))) (Or.inl (hw _ (List.mem_of_getElem? (i := 36) rfl))) (by decide) (t := .int) (t' := .short) (by decide) (by decide))))
  have fc18 : Exa Z h16 a1 "com/example/seqlint/seqlint/kafka/Batch" := (fc15.wr W16)
  obtain ⟨T19, h19, X19, e19, W19, st19⟩ := putF X16 hx hZ hown (host := "") (Or.inl (hw _ (List.mem_of_getElem? (i := 37) rfl))) Via.refl e16 fc17 fc18 (Or.inl (hw _ (List.mem_of_getElem? (i := 38) rfl))) (hw _ (List.mem_of_getElem? (i := 1) rfl)) (ty := .int) (by decide) rfl rfl (g := (mkF m 38 #[.val (.ref a1), .val (.long q2), .second, .val (.long q3), .second, .val (.int p4), .val (.long q5), .second, .val (.int p6), .val (.int p7), .val (.long q8), .second, .val (.long q9), .second, .val (.long q10), .second, .val (.int p11), .val (.int p12), .val (.int p13)] [(.int p7), (.ref a1)])) rfl rfl (hb hby d4_38)
  refine Goes.pre st19 ?_
  have Z19 : n0 ≤ h19.size := Nat.le_trans Z16 (Keep.of_wr W19).1
  have N19 := Fr.snoc X19 N16 pf_G_a1
  have K19 := K16.wr W19 (Or.inl (List.mem_of_getElem? (i := 0) rfl))
  have Fw19 : Fld Z h19 a1 "com/example/seqlint/seqlint/kafka/Batch" "lastOffsetDelta" "I" (.int p7) := fc17.same W19
  show Goes p e below s _ _ _ (T19.setTop (mkF m 41 #[.val (.ref a1), .val (.long q2), .second, .val (.long q3), .second, .val (.int p4), .val (.long q5), .second, .val (.int p6), .val (.int p7), .val (.long q8), .second, .val (.long q9), .second, .val (.long q10), .second, .val (.int p11), .val (.int p12), .val (.int p13)] []))
  refine Goes.pre (fun t kt => XS.aloadN X19.here hx rfl (hb hby d4_41) rfl rfl kt) ?_
  show Goes p e below s _ _ _ (T19.setTop (mkF m 42 #[.val (.ref a1), .val (.long q2), .second, .val (.long q3), .second, .val (.int p4), .val (.long q5), .second, .val (.int p6), .val (.int p7), .val (.long q8), .second, .val (.long q9), .second, .val (.long q10), .second, .val (.int p11), .val (.int p12), .val (.int p13)] [(.ref a1)]))
  refine Goes.pre (fun t kt => XS.lload X19.here hx rfl (hb hby d4_42) rfl kt) ?_
  show Goes p e below s _ _ _ (T19.setTop (mkF m 44 #[.val (.ref a1), .val (.long q2), .second, .val (.long q3), .second, .val (.int p4), .val (.long q5), .second, .val (.int p6), .val (.int p7), .val (.long q8), .second, .val (.long q9), .second, .val (.long q10), .second, .val (.int p11), .val (.int p12), .val (.int p13)] [(.long q8), (.ref a1)]))
  have fc20 : Fld Z h19 a1 "com/example/seqlint/seqlint/kafka/Batch" "firstTimestamp" "J" u_firstTimestamp := (((((((pf_F_a1_com_example_seqlint_seqlint_kafka_Batch_firstTimestamp.other W1 (Or.inr (slot_ne (Or.inl (hw _ (List.mem_of_getElem? (i := 40) rfl))) (Or.inl (hw _ (List.mem_of_getElem? (i := 27) rfl))) (by decide) (t := .long) (t' := .long) (by decide) (by decide)))).other W4 (Or.inr (slot_ne (Or.inl (hw _ (List.mem_of_getElem? (i := 40) rfl))) (Or.inl (hw _ (List.mem_of_getElem? (i := 29) rfl))) (by decide) (t := .long) (t' := .long) (by decide) (by decide)))).other W7 (Or.inr (slot_ne (Or.inl (hw _ (List.mem_of_getElem? (i := 40) rfl))) (Or.inl (hw _ (List.mem_of_getElem? (i := 31) rfl))) (by decide) (t := .long) (t' := .int) (by decide) (by decide)))).other W10 (Or.inr (slot_ne (Or.inl (hw _ (List.mem_of_getElem? (i := 40) rfl))) (Or.inl (hw _ (List.mem_of_getElem? (i := 33) rfl))) (by decide) (t := .long) (t' := .long) (by decide) (by decide)))).other W13 (Or.inr (slot_ne (Or.inl (hw _ (List.mem_of_getElem? (i := 40) rfl))) (Or.inl (hw _ (List.mem_of_getElem? (i := 18) rfl))) (by decide) (t := .long) (t' := .long) (by decide) (by decide)))).other W16 (Or.inr (slot_ne (Or.inl (hw _ (List.mem_of_getElem? (i := 40) rfl))) (Or.inl (hw _ (List.mem_of_getElem? (i := 36) rfl))) (by decide) (t := .long) (t' := .short) (by decide) (by decide)))).other W19 (Or.inr (slot_ne (Or.inl (hw _ (List.mem_of_getElem? (i := 40) rfl))) (Or.inl (hw _ (List.mem_of_getElem? (i := 38) rfl))) (by decide) (t := .long) (t' := .int) (by decide) (by decide))))
  have fc21 : Exa Z h19 a1 "com/example/seqlint/seqlint/kafka/Batch" := (fc18.wr W19)
  obtain ⟨T22, h22, X22, e22, W22, st22⟩ := putF X19 hx hZ hown (host := "") (Or.inl (hw _ (List.mem_of_getElem? (i := 39) rfl))) Via.refl e19 fc20 fc21 (Or.inl (hw _ (List.mem_of_getElem? (i := 40) rfl))) (hw _ (List.mem_of_getElem? (i := 1) rfl)) (ty := .long) (by decide) rfl rfl (g := (mkF m 44 #[.val (.ref a1), .val (.long q2), .second, .val (.long q3), .second, .val (.int p4), .val (.long q5), .second, .val (.int p6), .val (.int p7), .val (.long q8), .second, .val (.long q9), .second, .val (.long q10), .second, .val (.int p11), .val (.int p12), .val (.int p13)] [(.long q8), (.ref a1)])) rfl rfl (hb hby d4_44)
  refine Goes.pre st22 ?_
  have Z22 : n0 ≤ h22.size := Nat.le_trans Z19 (Keep.of_wr W22).1
  have N22 := Fr.snoc X22 N19 pf_G_a1
  have K22 := K19.wr W22 (Or.inl (List.mem_of_getElem? (i := 0) rfl))
  have Fw22 : Fld Z h22 a1 "com/example/seqlint/seqlint/kafka/Batch" "firstTimestamp" "J" (.long q8) := fc20.same W22
  show Goes p e below s _ _ _ (T22.setTop (mkF m 47 #[.val (.ref a1), .val (.long q2), .second, .val (.long q3), .second, .val (.int p4), .val (.long q5), .second, .val (.int p6), .val (.int p7), .val (.long q8), .second, .val (.long q9), .second, .val (.long q10), .second, .val (.int p11), .val (.int p12), .val (.int p13)] []))
  refine Goes.pre (fun t kt => XS.aloadN X22.here hx rfl (hb hby d4_47) rfl rfl kt) ?_
  show Goes p e below s _ _ _ (T22.setTop (mkF m 48 #[.val (.ref a1), .val (.long q2), .second, .val (.long q3), .second, .val (.int p4), .val (.long q5), .second, .val (.int p6), .val (.int p7), .val (.long q8), .second, .val (.long q9), .second, .val (.long q10), .second, .val (.int p11), .val (.int p12), .val (.int p13)] [(.ref a1)]))
  refine Goes.pre (fun t kt => XS.lload X22.here hx rfl (hb hby d4_48) rfl kt) ?_
  show Goes p e below s _ _ _ (T22.setTop (mkF m 50 #[.val (.ref a1), .val (.long q2), .second, .val (.long q3), .second, .val (.int p4), .val (.long q5), .second, .val (.int p6), .val (.int p7), .val (.long q8), .second, .val (.long q9), .second, .val (.long q10), .second, .val (.int p11), .val (.int p12), .val (.int p13)] [(.long q9), (.ref a1)]))
  have fc23 : Fld Z h22 a1 "com/example/seqlint/seqlint/kafka/Batch" "maxTimestamp" "J" u_maxTimestamp := ((((((((pf_F_a1_com_example_seqlint_seqlint_kafka_Batch_maxTimestamp.other W1 (Or.inr (slot_ne (Or.inl (hw _ (List.mem_of_getElem? (i := 42) rfl))) (Or.inl (hw _ (List.mem_of_getElem? (i := 27) rfl))) (by decide) (t := .long) (t' := .long) (by decide) (by decide)))).other W4 (Or.inr (slot_ne (Or.inl (hw _ (List.mem_of_getElem? (i := 42) rfl))) (Or.inl (hw _ (List.mem_of_getElem? (i := 29) rfl))) (by decide) (t := .long) (t' := .long) (by decide) (by decide)))).other W7 (Or.inr (slot_ne (Or.inl (hw _ (List.mem_of_getElem? (i := 42) rfl))) (Or.inl (hw _ (List.mem_of_getElem? (i := 31) rfl))) (by decide) (t := .long) (t' := .int) (by decide) (by decide)))).other W10 (Or.inr (slot_ne (Or.inl (hw _ (List.mem_of_getElem? (i := 42) rfl))) (Or.inl (hw _ (List.mem_of_getElem? (i := 33) rfl))) (by decide) (t := .long) (t' := .long) (by decide) (by decide)))).other W13 (Or.inr (slot_ne (Or.inl (hw _ (List.mem_of_getElem? (i := 42) rfl))) (Or.inl (hw _ (List.mem_of_getElem? (i := 18) rfl))) (by decide) (t := .long) (t' := .long) (by decide) (by decide)))).other W16 (Or.inr (slot_ne (Or.inl (hw _ (List.mem_of_getElem? (i := 42) rfl))) (Or.inl (hw _ (List.mem_of_getElem? (i := 36) rfl))) (by decide) (t := .long) (t' := .short) (by decide) (by decide)))).other W19 (Or.inr (slot_ne (Or.inl (hw _ (List.mem_of_getElem? (i := 42) rfl))) (Or.inl (hw _ (List.mem_of_getElem? (i := 38) rfl))) (by decide) (t := .long) (t' := .int) (by decide) (by decide)))).other W22 (Or.inr (slot_ne (Or.inl (hw _ (List.mem_of_getElem? (i := 42) rfl))) (Or.inl (hw _ (List.mem_of_getElem? (i := 40) rfl))) (by decide) (t := .long) (t' := .long) (by decide) (by decide))))
  have fc24 : Exa Z h22 a1 "com/example/seqlint/seqlint/kafka/Batch" := (fc21.wr W22)
  obtain ⟨T25, h25, X25, e25, W25, st25⟩ := putF X22 hx hZ hown (host := "") (Or.inl (hw _ (List.mem_of_getElem? (i := 41) rfl))) Via.refl e22 fc23 fc24 (Or.inl (hw _ (List.mem_of_getElem? (i := 42) rfl))) (hw _ (List.mem_of_getElem? (i := 1) rfl)) (ty := .long) (by decide) rfl rfl (g := (mkF m 50 #[.val (.ref a1), .val (.long q2), .second, .val (.long q3), .second, .val (.int p4), .val (.long q5), .second, .val (.int p6), .val (.int p7), .val (.long q8), .second, .val (.long q9), .second, .val (.long q10), .second, .val (.int p11), .val (.int p12), .val (.int p13)] [(.long q9), (.ref a1)])) rfl rfl (hb hby d4_50)
  refine Goes.pre st25 ?_
  have Z25 : n0 ≤ h25.size := Nat.le_trans Z22 (Keep.of_wr W25).1
  have N25 := Fr.snoc X25 N22 pf_G_a1
  have K25 := K22.wr W25 (Or.inl (List.mem_of_getElem? (i := 0) rfl))
  have Fw25 : Fld Z h25 a1 "com/example/seqlint/seqlint/kafka/Batch" "maxTimestamp" "J" (.long q9) := fc23.same W25
  show Goes p e below s _ _ _ (T25.setTop (mkF m 53 #[.val (.ref a1), .val (.long q2), .second, .val (.long q3), .second, .val (.int p4), .val (.long q5), .second, .val (.int p6), .val (.int p7), .val (.long q8), .second, .val (.long q9), .second, .val (.long q10), .second, .val (.int p11), .val (.int p12), .val (.int p13)] []))
  refine Goes.pre (fun t kt => XS.aloadN X25.here hx rfl (hb hby d4_53) rfl rfl kt) ?_
  show Goes p e below s _ _ _ (T25.setTop (mkF m 54 #[.val (.ref a1), .val (.long q2), .second, .val (.long q3), .second, .val (.int p4), .val (.long q5), .second, .val (.int p6), .val (.int p7), .val (.long q8), .second, .val (.long q9), .second, .val (.long q10), .second, .val (.int p11), .val (.int p12), .val (.int p13)] [(.ref a1)]))
  refine Goes.pre (fun t kt => XS.lload X25.here hx rfl (hb hby d4_54) rfl kt) ?_
  show Goes p e below s _ _ _ (T25.setTop (mkF m 56 #[.val (.ref a1), .val (.long q2), .second, .val (.long q3), .second, .val (.int p4), .val (.long q5), .second, .val (.int p6), .val (.int p7), .val (.long q8), .second, .val (.long q9), .second, .val (.long q10), .second, .val (.int p11), .val (.int p12), .val (.int p13)] [(.long q10), (.ref a1)]))
  have fc26 : Fld Z h25 a1 "com/example/seqlint/seqlint/kafka/Batch" "producerId" "J" u_producerId := (((((((((pf_F_a1_com_example_seqlint_seqlint_kafka_Batch_producerId.other W1 (Or.inr (slot_ne (Or.inl (hw _ (List.mem_of_getElem? (i := 44) rfl))) (Or.inl (hw _ (List.mem_of_getElem? (i := 27) rfl))) (by decide) (t := .long) (t' := .long) (by decide) (by decide)))).other W4 (Or.inr (slot_ne (Or.inl (hw _ (List.mem_of_getElem? (i := 44) rfl))) (Or.inl (hw _ (List.mem_of_getElem? (i := 29) rfl))) (by decide) (t := .long) (t' := .long) (by decide) (by decide)))).other W7 (Or.inr (slot_ne (Or.inl (hw _ (List.mem_of_getElem? (i := 44) rfl))) (Or.inl (hw _ (List.mem_of_getElem? (i := 31) rfl))) (by decide) (t := .long) (t' := .int) (by decide) (by decide)))).other W10 (Or.inr (slot_ne (Or.inl (hw _ (List.mem_of_getElem? (i := 44) rfl))) (Or.inl (hw _ (List.mem_of_getElem? (i := 33) rfl))) (by decide) (t := .long) (t' := .long) (by decide) (by decide)))).other W13 (Or.inr (slot_ne (Or.inl (hw _ (List.mem_of_getElem? (i := 44) rfl))) (Or.inl (hw _ (List.mem_of_getElem? (i := 18) rfl))) (by decide) (t := .long) (t' := .long) (by decide) (by decide)))).other W16 (Or.inr (slot_ne (Or.inl (hw _ (List.mem_of_getElem? (i := 44) rfl))) (Or.inl (hw _ (List.mem_of_getElem? (i := 36) rfl))) (by decide) (t := .long) (t' := .short) (by decide) (by decide)))).other W19 (Or.inr (slot_ne (Or.inl (hw _ (List.mem_of_getElem? (i := 44) rfl))) (Or.inl (hw _ (List.mem_of_getElem? (i := 38) rfl))) (by decide) (t := .long) (t' := .int) (by decide) (by decide)))).other W22 (Or.inr (slot_ne (Or.inl (hw _ (List.mem_of_getElem? (i := 44) rfl))) (Or.inl (hw _ (List.mem_of_getElem? (i := 40) rfl))) (by decide) (t := .long) (t' := .long) (by decide) (by decide)))).other W25 (Or.inr (slot_ne (Or.inl (hw _ (List.mem_of_getElem? (i := 44) rfl))) (Or.inl (hw _ (List.mem_of_getElem? (i := 42) rfl))) (by decide) (t := .long) (t' := .long) (by decide) (by decide))))
  have fc27 : Exa Z h25 a1 "com/example/seqlint/seqlint/kafka/Batch" := (fc24.wr W25)
  obtain ⟨T28, h28, X28, e28, W28, st28⟩ := putF X25 hx hZ hown (host := "") (Or.inl (hw _ (List.mem_of_getElem? (i := 43) rfl))) Via.refl e25 fc26 fc27 (Or.inl (hw _ (List.mem_of_getElem? (i := 44) rfl))) (hw _ (List.mem_of_getElem? (i := 1) rfl)) (ty := .long) (by decide) rfl rfl (g := (mkF m 56 #[.val (.ref a1), .val (.long q2), .second, .val (.long q3), .second, .val (.int p4), .val (.long q5), .second, .val (.int p6), .val (.int p7), .val (.long q8), .second, .val (.long q9), .second, .val (.long q10), .second, .val (.int p11), .val (.int p12), .val (.int p13)] [(.long q10), (.ref a1)])) rfl rfl (hb hby d4_56)
  refine Goes.pre st28 ?_
  have Z28 : n0 ≤ h28.size := Nat.le_trans Z25 (Keep.of_wr W28).1
  have N28 := Fr.snoc X28 N25 pf_G_a1
  have K28 := K25.wr W28 (Or.inl (List.mem_of_getElem? (i := 0) rfl))
  have Fw28 : Fld Z h28 a1 "com/example/seqlint/seqlint/kafka/Batch" "producerId" "J" (.long q10) := fc26.same W28
  show Goes p e below s _ _ _ (T28.setTop (mkF m 59 #[.val (.ref a1), .val (.long q2), .second, .val (.long q3), .second, .val (.int p4), .val (.long q5), .second, .val (.int p6), .val (.int p7), .val (.long q8), .second, .val (.long q9), .second, .val (.long q10), .second, .val (.int p11), .val (.int p12), .val (.int p13)] []))
  refine Goes.pre (fun t kt => XS.aloadN X28.here hx rfl (hb hby d4_59) rfl rfl kt) ?_
  show Goes p e below s _ _ _ (T28.setTop (mkF m 60 #[.val (.ref a1), .val (.long q2), .second, .val (.long q3), .second, .val (.int p4), .val (.long q5), .second, .val (.int p6), .val (.int p7), .val (.long q8), .second, .val (.long q9), .second, .val (.long q10), .second, .val (.int p11), .val (.int p12), .val (.int p13)] [(.ref a1)]))
  refine Goes.pre (fun t kt => XS.iload X28.here hx rfl (hb hby d4_60) rfl kt) ?_
  show Goes p e below s _ _ _ (T28.setTop (mkF m 62 #[.val (.ref a1), .val (.long q2), .second, .val (.long q3), .second, .val (.int p4), .val (.long q5), .second, .val (.int p6), .val (.int p7), .val (.long q8), .second, .val (.long q9), .second, .val (.long q10), .second, .val (.int p11), .val (.int p12), .val (.int p13)] [(.int p11), (.ref a1)]))
  have fc29 : Fld Z h28 a1 "com/example/seqlint/seqlint/kafka/Batch" "producerEpoch" "S" u_producerEpoch := ((((((((((pf_F_a1_com_example_seqlint_seqlint_kafka_Batch_producerEpoch.other W1 (Or.inr (slot_ne (Or.inl (hw _ (List.mem_of_getElem? (i := 46) rfl))) (Or.inl (hw _ (List.mem_of_getElem? (i := 27) rfl))) (by decide) (t := .short) (t' := .long) (by decide) (by decide)))).other W4 (Or.inr (slot_ne (Or.inl (hw _ (List.mem_of_getElem? (i := 46) rfl))) (Or.inl (hw _ (List.mem_of_getElem? (i := 29) rfl))) (by decide) (t := .short) (t' := .long) (by decide) (by decide)))).other W7 (Or.inr (slot_ne (Or.inl (hw _ (List.mem_of_getElem? (i := 46) rfl))) (Or.inl (hw _ (List.mem_of_getElem? (i := 31) rfl))) (by decide) (t := .short) (t' := .int) (by decide) (by decide)))).other W10 (Or.inr (slot_ne (Or.inl (hw _ (List.mem_of_getElem? (i := 46) rfl))) (Or.inl (hw _ (List.mem_of_getElem? (i := 33) rfl))) (by decide) (t := .short) (t' := .long) (by decide) (by decide)))).other W13 (Or.inr (slot_ne (Or.inl (hw _ (List.mem_of_getElem? (i := 46) rfl))) (Or.inl (hw _ (List.mem_of_getElem? (i := 18) rfl))) (by decide) (t := .short) (t' := .long) (by decide) (by decide)))).other W16 (Or.inr (slot_ne (Or.inl (hw _ (List.mem_of_getElem? (i := 46) rfl))) (Or.inl (hw _ (List.mem_of_getElem? (i := 36) rfl))) (by decide) (t := .short) (t' := .short) (by decide) (by decide)))).other W19 (Or.inr (slot_ne (Or.inl (hw _ (List.mem_of_getElem? (i := 46) rfl))) (Or.inl (hw _ (List.mem_of_getElem? (i := 38) rfl))) (by decide) (t := .short) (t' := .int) (by decide) (by decide)))).other W22 (Or.inr (slot_ne (Or.inl (hw _ (List.mem_of_getElem? (i := 46) rfl))) (Or.inl (hw _ (List.mem_of_getElem? (i := 40) rfl))) (by decide) (t := .short) (t' := .long) (by decide) (by decide)))).other W25 (Or.inr (slot_ne (Or.inl (hw _ (List.mem_of_getElem? (i := 46) rfl))) (Or.inl (hw _ (List.mem_of_getElem? (i := 42) rfl))) (by decide) (t := .short) (t' := .long) (by decide) (by decide)))).other W28 (Or.inr (slot_ne (Or.inl (hw _ (List.mem_of_getElem? (i := 46) rfl))) (Or.inl (hw _ (List.mem_of_getElem? (i := 44) rfl))) (by decide) (t := .short) (t' := .long) (by decide) (by decide))))
  have fc30 : Exa Z h28 a1 "com/example/seqlint/seqlint/kafka/Batch" := (fc27.wr W28)
  obtain ⟨T31, h31, X31, e31, W31, st31⟩ := putFN X28 hx hZ hown (hw _ (List.mem_of_getElem? (i := 45) rfl)) Via.refl e28 fc29 fc30 (Or.inl (hw _ (List.mem_of_getElem? (i := 46) rfl))) (hw _ (List.mem_of_getElem? (i := 1) rfl)) (ty := .short) (v' := (.int p11)) (by decide) (show narrow .short (.int p11) = (.int p11) from congrArg Value.int hs11) (own_fitS hs11) (g := (mkF m 62 #[.val (.ref a1), .val (.long q2), .second, .val (.long q3), .second, .val (.int p4), .val (.long q5), .second, .val (.int p6), .val (.int p7), .val (.long q8), .second, .val (.long q9), .second, .val (.long q10), .second, .val (.int p11), .val (.int p12), .val (.int p13)] [(.int p11), (.ref a1)])) rfl rfl (hb hby d4_62)
  refine Goes.pre st31 ?_
  have Z31 : n0 ≤ h31.size := Nat.le_trans Z28 (Keep.of_wr W31).1
  have N31 := Fr.snoc X31 N28 pf_G_a1
  have K31 := K28.wr W31 (Or.inl (List.mem_of_getElem? (i := 0) rfl))
  have Fw31 : Fld Z h31 a1 "com/example/seqlint/seqlint/kafka/Batch" "producerEpoch" "S" (.int p11) := fc29.same W31
  show Goes p e below s _ _ _ (T31.setTop (mkF m 65 #[.val (.ref a1), .val (.long q2), .second, .val (.long q3), .second, .val (.int p4), .val (.long q5), .second, .val (.int p6), .val (.int p7), .val (.long q8), .second, .val (.long q9), .second, .val (.long q10), .second, .val (.int p11), .val (.int p12), .val (.int p13)] []))
  refine Goes.pre (fun t kt => XS.aloadN X31.here hx rfl (hb hby d4_65) rfl rfl kt) ?_
  show Goes p e below s _ _ _ (T31.setTop (mkF m 66 #[.val (.ref a1), .val (.long q2), .second, .val (.long q3), .second, .val (.int p4), .val (.long q5), .second, .val (.int p6), .val (.int p7), .val (.long q8), .second, .val (.long q9), .second, .val (.long q10), .second, .val (.int p11), .val (.int p12), .val (.int p13)] [(.ref a1)]))
  refine Goes.pre (fun t kt => XS.iload X31.here hx rfl (hb hby d4_66) rfl kt) ?_
  show Goes p e below s _ _ _ (T31.setTop (mkF m 68 #[.val (.ref a1), .val (.long q2), .second, .val (.long q3), .second, .val (.int p4), .val (.long q5), .second, .val (.int p6), .val (.int p7), .val (.long q8), .second, .val (.long q9), .second, .val (.long q10), .second, .val (.int p11), .val (.int p12), .val (.int p13)] [(.int p12), (.ref a1)]))
  have fc32 : Fld Z h31 a1 "com/example/seqlint/seqlint/kafka/Batch" "baseSequence" "I" u_baseSequence := (((((((((((pf_F_a1_com_example_seqlint_seqlint_kafka_Batch_baseSequence.other W1 (Or.inr (slot_ne (Or.inl (hw _ (List.mem_of_getElem? (i := 48) rfl))) (Or.inl (hw _ (List.mem_of_getElem? (i := 27) rfl))) (by decide) (t := .int) (t' := .long) (by decide) (by decide)))).other W4 (Or.inr (slot_ne (Or.inl (hw _ (List.mem_of_getElem? (i := 48) rfl))) (Or.inl (hw _ (List.mem_of_getElem? (i := 29) rfl))) (by decide) (t := .int) (t' := .long) (by decide) (by decide)))).other W7 (Or.inr (slot_ne (Or.inl (hw _ (List.mem_of_getElem? (i := 48) rfl))) (Or.inl (hw _ (List.mem_of_getElem? (i := 31) rfl))) (by decide) (t := .int) (t' := .int) (by decide) (by decide)))).other W10 (Or.inr (slot_ne (Or.inl (hw _ (List.mem_of_getElem? (i := 48) rfl))) (Or.inl (hw _ (List.mem_of_getElem? (i := 33) rfl))) (by decide) (t := .int) (t' := .long) (by decide) (by decide)))).other W13 (Or.inr (slot_ne (Or.inl (hw _ (List.mem_of_getElem? (i := 48) rfl))) (Or.inl (hw _ (List.mem_of_getElem? (i := 18) rfl))) (by decide) (t := .int) (t' := .long) (by decide) (by decide)))).other W16 (Or.inr (slot_ne (Or.inl (hw _ (List.mem_of_getElem? (i := 48) rfl))) (Or.inl (hw _ (List.mem_of_getElem? (i := 36) rfl))) (by decide) (t := .int) (t' := .short) (by decide) (by decide)))).other W19 (Or.inr (slot_ne (Or.inl (hw _ (List.mem_of_getElem? (i := 48) rfl))) (Or.inl (hw _ (List.mem_of_getElem? (i := 38) rfl))) (by decide) (t := .int) (t' := .int) (by decide) (by decide)))).other W22 (Or.inr (slot_ne (Or.inl (hw _ (List.mem_of_getElem? (i := 48) rfl))) (Or.inl (hw _ (List.mem_of_getElem? (i := 40) rfl))) (by decide) (t := .int) (t' := .long) (by decide) (by decide)))).other W25 (Or.inr (slot_ne (Or.inl (hw _ (List.mem_of_getElem? (i := 48) rfl))) (Or.inl (hw _ (List.mem_of_getElem? (i := 42) rfl))) (by decide) (t := .int) (t' := .long) (by decide) (by decide)))).other W28 (Or.inr (slot_ne (Or.inl (hw _ (List.mem_of_getElem? (i := 48) rfl))) (Or.inl (hw _ (List.mem_of_getElem? (i := 44) rfl))) (by decide) (t := .int) (t' := .long) (by decide) (by decide)))).other W31 (Or.inr (slot_ne (Or.inl (hw _ (List.mem_of_getElem? (i := 48) rfl))) (Or.inl (hw _ (List.mem_of_getElem? (i := 46) rfl))) (by decide) (t := .int) (t' := .short) (by decide) (by decide))))
  have fc33 : Exa Z h31 a1 "com/example/seqlint/seqlint/kafka/Batch" := (fc30.wr W31)
  obtain ⟨T34, h34, X34, e34, W34, st34⟩ := putF X31 hx hZ hown (host := "") (Or.inl (hw _ (List.mem_of_getElem? (i := 47) rfl))) Via.refl e31 fc32 fc33 (Or.inl (hw _ (List.mem_of_getElem? (i := 48) rfl))) (hw _ (List.mem_of_getElem? (i := 1) rfl)) (ty := .int) (by decide) rfl rfl (g := (mkF m 68 #[.val (.ref a1), .val (.long q2), .second, .val (.long q3), .second, .val (.int p4), .val (.long q5), .second, .val (.int p6), .val (.int p7), .val (.long q8), .second, .val (.long q9), .second, .val (.long q10), .second, .val (.int p11), .val (.int p12), .val (.int p13)] [(.int p12), (.ref a1)])) rfl rfl (hb hby d4_68)
  refine Goes.pre st34 ?_
  have Z34 : n0 ≤ h34.size := Nat.le_trans Z31 (Keep.of_wr W34).1
  have N34 := Fr.snoc X34 N31 pf_G_a1
  have K34 := K31.wr W34 (Or.inl (List.mem_of_getElem? (i := 0) rfl))
  have Fw34 : Fld Z h34 a1 "com/example/seqlint/seqlint/kafka/Batch" "baseSequence" "I" (.int p12) := fc32.same W34
  show Goes p e below s _ _ _ (T34.setTop (mkF m 71 #[.val (.ref a1), .val (.long q2), .second, .val (.long q3), .second, .val (.int p4), .val (.long q5), .second, .val (.int p6), .val (.int p7), .val (.long q8), .second, .val (.long q9), .second, .val (.long q10), .second, .val (.int p11), .val (.int p12), .val (.int p13)] []))
  refine Goes.pre (fun t kt => XS.aloadN X34.here hx rfl (hb hby d4_71) rfl rfl kt) ?_
  show Goes p e below s _ _ _ (T34.setTop (mkF m 72 #[.val (.ref a1), .val (.long q2), .second, .val (.long q3), .second, .val (.int p4), .val (.long q5), .second, .val (.int p6), .val (.int p7), .val (.long q8), .second, .val (.long q9), .second, .val (.long q10), .second, .val (.int p11), .val (.int p12), .val (.int p13)] [(.ref a1)]))
  refine Goes.pre (fun t kt => XS.iload X34.here hx rfl (hb hby d4_72) rfl kt) ?_
  show Goes p e below s _ _ _ (T34.setTop (mkF m 74 #[.val (.ref a1), .val (.long q2), .second, .val (.long q3), .second, .val (.int p4), .val (.long q5), .second, .val (.int p6), .val (.int p7), .val (.long q8), .second, .val (.long q9), .second, .val (.long q10), .second, .val (.int p11), .val (.int p12), .val (.int p13)] [(.int p13), (.ref a1)]))
  have fc35 : Fld Z h34 a1 "com/example/seqlint/seqlint/kafka/Batch" "recordCount" "I" u_recordCount := ((((((((((((pf_F_a1_com_example_seqlint_seqlint_kafka_Batch_recordCount.other W1 (Or.inr (slot_ne (Or.inl (hw _ (List.mem_of_getElem? (i := 50) rfl))) (Or.inl (hw _ (List.mem_of_getElem? (i := 27) rfl))) (by decide) (t := .int) (t' := .long) (by decide) (by decide)))).other W4 (Or.inr (slot_ne (Or.inl (hw _ (List.mem_of_getElem? (i := 50) rfl))) (Or.inl (hw _ (List.mem_of_getElem? (i := 29) rfl))) (by decide) (t := .int) (t' := .long) (by decide) (by decide)))).other W7 (Or.inr (slot_ne (Or.inl (hw _ (List.mem_of_getElem? (i := 50) rfl))) (Or.inl (hw _ (List.mem_of_getElem? (i := 31) rfl))) (by decide) (t := .int) (t' := .int) (by decide) (by decide)))).other W10 (Or.inr (slot_ne (Or.inl (hw _ (List.mem_of_getElem? (i := 50) rfl))) (Or.inl (hw _ (List.mem_of_getElem? (i := 33) rfl))) (by decide) (t := .int) (t' := .long) (by decide) (by decide)))).other W13 (Or.inr (slot_ne (Or.inl (hw _ (List.mem_of_getElem? (i := 50) rfl))) (Or.inl (hw _ (List.mem_of_getElem? (i := 18) rfl))) (by decide) (t := .int) (t' := .long) (by decide) (by decide)))).other W16 (Or.inr (slot_ne (Or.inl (hw _ (List.mem_of_getElem? (i := 50) rfl))) (Or.inl (hw _ (List.mem_of_getElem? (i := 36) rfl))) (by decide) (t := .int) (t' := .short) (by decide) (by decide)))).other W19 (Or.inr (slot_ne (Or.inl (hw _ (List.mem_of_getElem? (i := 50) rfl))) (Or.inl (hw _ (List.mem_of_getElem? (i := 38) rfl))) (by decide) (t := .int) (t' := .int) (by decide) (by decide)))).other W22 (Or.inr (slot_ne (Or.inl (hw _ (List.mem_of_getElem? (i := 50) rfl))) (Or.inl (hw _ (List.mem_of_getElem? (i := 40) rfl))) (by decide) (t := .int) (t' := .long) (by decide) (by decide)))).other W25 (Or.inr (slot_ne (Or.inl (hw _ (List.mem_of_getElem? (i := 50) rfl))) (Or.inl (hw _ (List.mem_of_getElem? (i := 42) rfl))) (by decide) (t := .int) (t' := .long) (by decide) (by decide)))).other W28 (Or.inr (slot_ne (Or.inl (hw _ (List.mem_of_getElem? (i := 50) rfl))) (Or.inl (hw _ (List.mem_of_getElem? (i := 44) rfl))) (by decide) (t := .int) (t' := .long) (by decide) (by decide)))).other W31 (Or.inr (slot_ne (Or.inl (hw _ (List.mem_of_getElem? (i := 50) rfl))) (Or.inl (hw _ (List.mem_of_getElem? (i := 46) rfl))) (by decide) (t := .int) (t' := .short) (by decide) (by decide)))).other W34 (Or.inr (slot_ne (Or.inl (hw _ (List.mem_of_getElem? (i := 50) rfl))) (Or.inl (hw _ (List.mem_of_getElem? (i := 48) rfl))) (by decide) (t := .int) (t' := .int) (by decide) (by decide))))
  have fc36 : Exa Z h34 a1 "com/example/seqlint/seqlint/kafka/Batch" := (fc33.wr W34)
  obtain ⟨T37, h37, X37, e37, W37, st37⟩ := putF X34 hx hZ hown (host := "") (Or.inl (hw _ (List.mem_of_getElem? (i := 49) rfl))) Via.refl e34 fc35 fc36 (Or.inl (hw _ (List.mem_of_getElem? (i := 50) rfl))) (hw _ (List.mem_of_getElem? (i := 1) rfl)) (ty := .int) (by decide) rfl rfl (g := (mkF m 74 #[.val (.ref a1), .val (.long q2), .second, .val (.long q3), .second, .val (.int p4), .val (.long q5), .second, .val (.int p6), .val (.int p7), .val (.long q8), .second, .val (.long q9), .second, .val (.long q10), .second, .val (.int p11), .val (.int p12), .val (.int p13)] [(.int p13), (.ref a1)])) rfl rfl (hb hby d4_74)
  refine Goes.pre st37 ?_
  have Z37 : n0 ≤ h37.size := Nat.le_trans Z34 (Keep.of_wr W37).1
  have N37 := Fr.snoc X37 N34 pf_G_a1
  have K37 := K34.wr W37 (Or.inl (List.mem_of_getElem? (i := 0) rfl))
  have Fw37 : Fld Z h37 a1 "com/example/seqlint/seqlint/kafka/Batch" "recordCount" "I" (.int p13) := fc35.same W37
  show Goes p e below s _ _ _ (T37.setTop (mkF m 77 #[.val (.ref a1), .val (.long q2), .second, .val (.long q3), .second, .val (.int p4), .val (.long q5), .second, .val (.int p6), .val (.int p7), .val (.long q8), .second, .val (.long q9), .second, .val (.long q10), .second, .val (.int p11), .val (.int p12), .val (.int p13)] []))
  refine Goes.pre (fun t kt => XS.aloadN X37.here hx rfl (hb hby d4_77) rfl rfl kt) ?_
  show Goes p e below s _ _ _ (T37.setTop (mkF m 78 #[.val (.ref a1), .val (.long q2), .second, .val (.long q3), .second, .val (.int p4), .val (.long q5), .second, .val (.int p6), .val (.int p7), .val (.long q8), .second, .val (.long q9), .second, .val (.long q10), .second, .val (.int p11), .val (.int p12), .val (.int p13)] [(.ref a1)]))
  refine Goes.pre (fun t kt => XS.aconstNull X37.here hx rfl (hb hby d4_78) kt) ?_
  show Goes p e below s _ _ _ (T37.setTop (mkF m 79 #[.val (.ref a1), .val (.long q2), .second, .val (.long q3), .second, .val (.int p4), .val (.long q5), .second, .val (.int p6), .val (.int p7), .val (.long q8), .second, .val (.long q9), .second, .val (.long q10), .second, .val (.int p11), .val (.int p12), .val (.int p13)] [.null, (.ref a1)]))
  have fc38 : Fld Z h37 a1 "com/example/seqlint/seqlint/kafka/Batch" "marker" "Lcom/example/seqlint/seqlint/kafka/Batch$Marker;" u_marker := (((((((((((((pf_F_a1_com_example_seqlint_seqlint_kafka_Batch_marker.other W1 (Or.inr (slot_ne (Or.inl (hw _ (List.mem_of_getElem? (i := 20) rfl))) (Or.inl (hw _ (List.mem_of_getElem? (i := 27) rfl))) (by decide) (t := (.object "com/example/seqlint/seqlint/kafka/Batch$Marker")) (t' := .long) (by decide) (by decide)))).other W4 (Or.inr (slot_ne (Or.inl (hw _ (List.mem_of_getElem? (i := 20) rfl))) (Or.inl (hw _ (List.mem_of_getElem? (i := 29) rfl))) (by decide) (t := (.object "com/example/seqlint/seqlint/kafka/Batch$Marker")) (t' := .long) (by decide) (by decide)))).other W7 (Or.inr (slot_ne (Or.inl (hw _ (List.mem_of_getElem? (i := 20) rfl))) (Or.inl (hw _ (List.mem_of_getElem? (i := 31) rfl))) (by decide) (t := (.object "com/example/seqlint/seqlint/kafka/Batch$Marker")) (t' := .int) (by decide) (by decide)))).other W10 (Or.inr (slot_ne (Or.inl (hw _ (List.mem_of_getElem? (i := 20) rfl))) (Or.inl (hw _ (List.mem_of_getElem? (i := 33) rfl))) (by decide) (t := (.object "com/example/seqlint/seqlint/kafka/Batch$Marker")) (t' := .long) (by decide) (by decide)))).other W13 (Or.inr (slot_ne (Or.inl (hw _ (List.mem_of_getElem? (i := 20) rfl))) (Or.inl (hw _ (List.mem_of_getElem? (i := 18) rfl))) (by decide) (t := (.object "com/example/seqlint/seqlint/kafka/Batch$Marker")) (t' := .long) (by decide) (by decide)))).other W16 (Or.inr (slot_ne (Or.inl (hw _ (List.mem_of_getElem? (i := 20) rfl))) (Or.inl (hw _ (List.mem_of_getElem? (i := 36) rfl))) (by decide) (t := (.object "com/example/seqlint/seqlint/kafka/Batch$Marker")) (t' := .short) (by decide) (by decide)))).other W19 (Or.inr (slot_ne (Or.inl (hw _ (List.mem_of_getElem? (i := 20) rfl))) (Or.inl (hw _ (List.mem_of_getElem? (i := 38) rfl))) (by decide) (t := (.object "com/example/seqlint/seqlint/kafka/Batch$Marker")) (t' := .int) (by decide) (by decide)))).other W22 (Or.inr (slot_ne (Or.inl (hw _ (List.mem_of_getElem? (i := 20) rfl))) (Or.inl (hw _ (List.mem_of_getElem? (i := 40) rfl))) (by decide) (t := (.object "com/example/seqlint/seqlint/kafka/Batch$Marker")) (t' := .long) (by decide) (by decide)))).other W25 (Or.inr (slot_ne (Or.inl (hw _ (List.mem_of_getElem? (i := 20) rfl))) (Or.inl (hw _ (List.mem_of_getElem? (i := 42) rfl))) (by decide) (t := (.object "com/example/seqlint/seqlint/kafka/Batch$Marker")) (t' := .long) (by decide) (by decide)))).other W28 (Or.inr (slot_ne (Or.inl (hw _ (List.mem_of_getElem? (i := 20) rfl))) (Or.inl (hw _ (List.mem_of_getElem? (i := 44) rfl))) (by decide) (t := (.object "com/example/seqlint/seqlint/kafka/Batch$Marker")) (t' := .long) (by decide) (by decide)))).other W31 (Or.inr (slot_ne (Or.inl (hw _ (List.mem_of_getElem? (i := 20) rfl))) (Or.inl (hw _ (List.mem_of_getElem? (i := 46) rfl))) (by decide) (t := (.object "com/example/seqlint/seqlint/kafka/Batch$Marker")) (t' := .short) (by decide) (by decide)))).other W34 (Or.inr (slot_ne (Or.inl (hw _ (List.mem_of_getElem? (i := 20) rfl))) (Or.inl (hw _ (List.mem_of_getElem? (i := 48) rfl))) (by decide) (t := (.object "com/example/seqlint/seqlint/kafka/Batch$Marker")) (t' := .int) (by decide) (by decide)))).other W37 (Or.inr (slot_ne (Or.inl (hw _ (List.mem_of_getElem? (i := 20) rfl))) (Or.inl (hw _ (List.mem_of_getElem? (i := 50) rfl))) (by decide) (t := (.object "com/example/seqlint/seqlint/kafka/Batch$Marker")) (t' := .int) (by decide) (by decide))))
  have fc39 : Exa Z h37 a1 "com/example/seqlint/seqlint/kafka/Batch" := (fc36.wr W37)
  obtain ⟨T40, h40, X40, e40, W40, st40⟩ := putF X37 hx hZ hown (host := "") (Or.inl (hw _ (List.mem_of_getElem? (i := 19) rfl))) Via.refl e37 fc38 fc39 (Or.inl (hw _ (List.mem_of_getElem? (i := 20) rfl))) (hw _ (List.mem_of_getElem? (i := 1) rfl)) (ty := (.object "com/example/seqlint/seqlint/kafka/Batch$Marker")) (by decide) rfl rfl (g := (mkF m 79 #[.val (.ref a1), .val (.long q2), .second, .val (.long q3), .second, .val (.int p4), .val (.long q5), .second, .val (.int p6), .val (.int p7), .val (.long q8), .second, .val (.long q9), .second, .val (.long q10), .second, .val (.int p11), .val (.int p12), .val (.int p13)] [.null, (.ref a1)])) rfl rfl (hb hby d4_79)
  refine Goes.pre st40 ?_
  have Z40 : n0 ≤ h40.size := Nat.le_trans Z37 (Keep.of_wr W40).1
  have N40 := Fr.snoc X40 N37 pf_G_a1
  have K40 := K37.wr W40 (Or.inl (List.mem_of_getElem? (i := 0) rfl))
  have Fw40 : Fld Z h40 a1 "com/example/seqlint/seqlint/kafka/Batch" "marker" "Lcom/example/seqlint/seqlint/kafka/Batch$Marker;" .null := fc38.same W40
  show Goes p e below s _ _ _ (T40.setTop (mkF m 82 #[.val (.ref a1), .val (.long q2), .second, .val (.long q3), .second, .val (.int p4), .val (.long q5), .second, .val (.int p6), .val (.int p7), .val (.long q8), .second, .val (.long q9), .second, .val (.long q10), .second, .val (.int p11), .val (.int p12), .val (.int p13)] []))
  have fc41 : Fld Z h40 a1 "com/example/seqlint/seqlint/kafka/Batch" "position" "J" (.long q2) := (((((((((((((Fw1.other W4 (Or.inr (slot_ne (Or.inl (hw _ (List.mem_of_getElem? (i := 27) rfl))) (Or.inl (hw _ (List.mem_of_getElem? (i := 29) rfl))) (by decide) (t := .long) (t' := .long) (by decide) (by decide)))).other W7 (Or.inr (slot_ne (Or.inl (hw _ (List.mem_of_getElem? (i := 27) rfl))) (Or.inl (hw _ (List.mem_of_getElem? (i := 31) rfl))) (by decide) (t := .long) (t' := .int) (by decide) (by decide)))).other W10 (Or.inr (slot_ne (Or.inl (hw _ (List.mem_of_getElem? (i := 27) rfl))) (Or.inl (hw _ (List.mem_of_getElem? (i := 33) rfl))) (by decide) (t := .long) (t' := .long) (by decide) (by decide)))).other W13 (Or.inr (slot_ne (Or.inl (hw _ (List.mem_of_getElem? (i := 27) rfl))) (Or.inl (hw _ (List.mem_of_getElem? (i := 18) rfl))) (by decide) (t := .long) (t' := .long) (by decide) (by decide)))).other W16 (Or.inr (slot_ne (Or.inl (hw _ (List.mem_of_getElem? (i := 27) rfl))) (Or.inl (hw _ (List.mem_of_getElem? (i := 36) rfl))) (by decide) (t := .long) (t' := .short) (by decide) (by decide)))).other W19 (Or.inr (slot_ne (Or.inl (hw _ (List.mem_of_getElem? (i := 27) rfl))) (Or.inl (hw _ (List.mem_of_getElem? (i := 38) rfl))) (by decide) (t := .long) (t' := .int) (by decide) (by decide)))).other W22 (Or.inr (slot_ne (Or.inl (hw _ (List.mem_of_getElem? (i := 27) rfl))) (Or.inl (hw _ (List.mem_of_getElem? (i := 40) rfl))) (by decide) (t := .long) (t' := .long) (by decide) (by decide)))).other W25 (Or.inr (slot_ne (Or.inl (hw _ (List.mem_of_getElem? (i := 27) rfl))) (Or.inl (hw _ (List.mem_of_getElem? (i := 42) rfl))) (by decide) (t := .long) (t' := .long) (by decide) (by decide)))).other W28 (Or.inr (slot_ne (Or.inl (hw _ (List.mem_of_getElem? (i := 27) rfl))) (Or.inl (hw _ (List.mem_of_getElem? (i := 44) rfl))) (by decide) (t := .long) (t' := .long) (by decide) (by decide)))).other W31 (Or.inr (slot_ne (Or.inl (hw _ (List.mem_of_getElem? (i := 27) rfl))) (Or.inl (hw _ (List.mem_of_getElem? (i := 46) rfl))) (by decide) (t := .long) (t' := .short) (by decide) (by decide)))).other W34 (Or.inr (slot_ne (Or.inl (hw _ (List.mem_of_getElem? (i := 27) rfl))) (Or.inl (hw _ (List.mem_of_getElem? (i := 48) rfl))) (by decide) (t := .long) (t' := .int) (by decide) (by decide)))).other W37 (Or.inr (slot_ne (Or.inl (hw _ (List.mem_of_getElem? (i := 27) rfl))) (Or.inl (hw _ (List.mem_of_getElem? (i := 50) rfl))) (by decide) (t := .long) (t' := .int) (by decide) (by decide)))).other W40 (Or.inr (slot_ne (Or.inl (hw _ (List.mem_of_getElem? (i := 27) rfl))) (Or.inl (hw _ (List.mem_of_getElem? (i := 20) rfl))) (by decide) (t := .long) (t' := (.object "com/example/seqlint/seqlint/kafka/Batch$Marker")) (by decide) (by decide))))
  have fc42 : Fld Z h40 a1 "com/example/seqlint/seqlint/kafka/Batch" "baseOffset" "J" (.long q3) := ((((((((((((Fw4.other W7 (Or.inr (slot_ne (Or.inl (hw _ (List.mem_of_getElem? (i := 29) rfl))) (Or.inl (hw _ (List.mem_of_getElem? (i := 31) rfl))) (by decide) (t := .long) (t' := .int) (by decide) (by decide)))).other W10 (Or.inr (slot_ne (Or.inl (hw _ (List.mem_of_getElem? (i := 29) rfl))) (Or.inl (hw _ (List.mem_of_getElem? (i := 33) rfl))) (by decide) (t := .long) (t' := .long) (by decide) (by decide)))).other W13 (Or.inr (slot_ne (Or.inl (hw _ (List.mem_of_getElem? (i := 29) rfl))) (Or.inl (hw _ (List.mem_of_getElem? (i := 18) rfl))) (by decide) (t := .long) (t' := .long) (by decide) (by decide)))).other W16 (Or.inr (slot_ne (Or.inl (hw _ (List.mem_of_getElem? (i := 29) rfl))) (Or.inl (hw _ (List.mem_of_getElem? (i := 36) rfl))) (by decide) (t := .long) (t' := .short) (by decide) (by decide)))).other W19 (Or.inr (slot_ne (Or.inl (hw _ (List.mem_of_getElem? (i := 29) rfl))) (Or.inl (hw _ (List.mem_of_getElem? (i := 38) rfl))) (by decide) (t := .long) (t' := .int) (by decide) (by decide)))).other W22 (Or.inr (slot_ne (Or.inl (hw _ (List.mem_of_getElem? (i := 29) rfl))) (Or.inl (hw _ (List.mem_of_getElem? (i := 40) rfl))) (by decide) (t := .long) (t' := .long) (by decide) (by decide)))).other W25 (Or.inr (slot_ne (Or.inl (hw _ (List.mem_of_getElem? (i := 29) rfl))) (Or.inl (hw _ (List.mem_of_getElem? (i := 42) rfl))) (by decide) (t := .long) (t' := .long) (by decide) (by decide)))).other W28 (Or.inr (slot_ne (Or.inl (hw _ (List.mem_of_getElem? (i := 29) rfl))) (Or.inl (hw _ (List.mem_of_getElem? (i := 44) rfl))) (by decide) (t := .long) (t' := .long) (by decide) (by decide)))).other W31 (Or.inr (slot_ne (Or.inl (hw _ (List.mem_of_getElem? (i := 29) rfl))) (Or.inl (hw _ (List.mem_of_getElem? (i := 46) rfl))) (by decide) (t := .long) (t' := .short) (by decide) (by decide)))).other W34 (Or.inr (slot_ne (Or.inl (hw _ (List.mem_of_getElem? (i := 29) rfl))) (Or.inl (hw _ (List.mem_of_getElem? (i := 48) rfl))) (by decide) (t := .long) (t' := .int) (by decide) (by decide)))).other W37 (Or.inr (slot_ne (Or.inl (hw _ (List.mem_of_getElem? (i := 29) rfl))) (Or.inl (hw _ (List.mem_of_getElem? (i := 50) rfl))) (by decide) (t := .long) (t' := .int) (by decide) (by decide)))).other W40 (Or.inr (slot_ne (Or.inl (hw _ (List.mem_of_getElem? (i := 29) rfl))) (Or.inl (hw _ (List.mem_of_getElem? (i := 20) rfl))) (by decide) (t := .long) (t' := (.object "com/example/seqlint/seqlint/kafka/Batch$Marker")) (by decide) (by decide))))
  have fc43 : Fld Z h40 a1 "com/example/seqlint/seqlint/kafka/Batch" "leaderEpoch" "I" (.int p4) := (((((((((((Fw7.other W10 (Or.inr (slot_ne (Or.inl (hw _ (List.mem_of_getElem? (i := 31) rfl))) (Or.inl (hw _ (List.mem_of_getElem? (i := 33) rfl))) (by decide) (t := .int) (t' := .long) (by decide) (by decide)))).other W13 (Or.inr (slot_ne (Or.inl (hw _ (List.mem_of_getElem? (i := 31) rfl))) (Or.inl (hw _ (List.mem_of_getElem? (i := 18) rfl))) (by decide) (t := .int) (t' := .long) (by decide) (by decide)))).other W16 (Or.inr (slot_ne (Or.inl (hw _ (List.mem_of_getElem? (i := 31) rfl))) (Or.inl (hw _ (List.mem_of_getElem? (i := 36) rfl))) (by decide) (t := .int) (t' := .short) (by decide) (by decide)))).other W19 (Or.inr (slot_ne (Or.inl (hw _ (List.mem_of_getElem? (i := 31) rfl))) (Or.inl (hw _ (List.mem_of_getElem? (i := 38) rfl))) (by decide) (t := .int) (t' := .int) (by decide) (by decide)))).other W22 (Or.inr (slot_ne (Or.inl (hw _ (List.mem_of_getElem? (i := 31) rfl))) (Or.inl (hw _ (List.mem_of_getElem? (i := 40) rfl))) (by decide) (t := .int) (t' := .long) (by decide) (by decide)))).other W25 (Or.inr (slot_ne (Or.inl (hw _ (List.mem_of_getElem? (i := 31) rfl))) (Or.inl (hw _ (List.mem_of_getElem? (i := 42) rfl))) (by decide) (t := .int) (t' := .long) (by decide) (by decide)))).other W28 (Or.inr (slot_ne (Or.inl (hw _ (List.mem_of_getElem? (i := 31) rfl))) (Or.inl (hw _ (List.mem_of_getElem? (i := 44) rfl))) (by decide) (t := .int) (t' := .long) (by decide) (by decide)))).other W31 (Or.inr (slot_ne (Or.inl (hw _ (List.mem_of_getElem? (i := 31) rfl))) (Or.inl (hw _ (List.mem_of_getElem? (i := 46) rfl))) (by decide) (t := .int) (t' := .short) (by decide) (by decide)))).other W34 (Or.inr (slot_ne (Or.inl (hw _ (List.mem_of_getElem? (i := 31) rfl))) (Or.inl (hw _ (List.mem_of_getElem? (i := 48) rfl))) (by decide) (t := .int) (t' := .int) (by decide) (by decide)))).other W37 (Or.inr (slot_ne (Or.inl (hw _ (List.mem_of_getElem? (i := 31) rfl))) (Or.inl (hw _ (List.mem_of_getElem? (i := 50) rfl))) (by decide) (t := .int) (t' := .int) (by decide) (by decide)))).other W40 (Or.inr (slot_ne (Or.inl (hw _ (List.mem_of_getElem? (i := 31) rfl))) (Or.inl (hw _ (List.mem_of_getElem? (i := 20) rfl))) (by decide) (t := .int) (t' := (.object "com/example/seqlint/seqlint/kafka/Batch$Marker")) (by decide) (by decide))))
  have fc44 : Fld Z h40 a1 "com/example/seqlint/seqlint/kafka/Batch" "storedCrc" "J" (.long q5) := ((((((((((Fw10.other W13 (Or.inr (slot_ne (Or.inl (hw _ (List.mem_of_getElem? (i := 33) rfl))) (Or.inl (hw _ (List.mem_of_getElem? (i := 18) rfl))) (by decide) (t := .long) (t' := .long) (by decide) (by decide)))).other W16 (Or.inr (slot_ne (Or.inl (hw _ (List.mem_of_getElem? (i := 33) rfl))) (Or.inl (hw _ (List.mem_of_getElem? (i := 36) rfl))) (by decide) (t := .long) (t' := .short) (by decide) (by decide)))).other W19 (Or.inr (slot_ne (Or.inl (hw _ (List.mem_of_getElem? (i := 33) rfl))) (Or.inl (hw _ (List.mem_of_getElem? (i := 38) rfl))) (by decide) (t := .long) (t' := .int) (by decide) (by decide)))).other W22 (Or.inr (slot_ne (Or.inl (hw _ (List.mem_of_getElem? (i := 33) rfl))) (Or.inl (hw _ (List.mem_of_getElem? (i := 40) rfl))) (by decide) (t := .long) (t' := .long) (by decide) (by decide)))).other W25 (Or.inr (slot_ne (Or.inl (hw _ (List.mem_of_getElem? (i := 33) rfl))) (Or.inl (hw _ (List.mem_of_getElem? (i := 42) rfl))) (by decide) (t := .long) (t' := .long) (by decide) (by decide)))).other W28 (Or.inr (slot_ne (Or.inl (hw _ (List.mem_of_getElem? (i := 33) rfl))) (Or.inl (hw _ (List.mem_of_getElem? (i := 44) rfl))) (by decide) (t := .long) (t' := .long) (by decide) (by decide)))).other W31 (Or.inr (slot_ne (Or.inl (hw _ (List.mem_of_getElem? (i := 33) rfl))) (Or.inl (hw _ (List.mem_of_getElem? (i := 46) rfl))) (by decide) (t := .long) (t' := .short) (by decide) (by decide)))).other W34 (Or.inr (slot_ne (Or.inl (hw _ (List.mem_of_getElem? (i := 33) rfl))) (Or.inl (hw _ (List.mem_of_getElem? (i := 48) rfl))) (by decide) (t := .long) (t' := .int) (by decide) (by decide)))).other W37 (Or.inr (slot_ne (Or.inl (hw _ (List.mem_of_getElem? (i := 33) rfl))) (Or.inl (hw _ (List.mem_of_getElem? (i := 50) rfl))) (by decide) (t := .long) (t' := .int) (by decide) (by decide)))).other W40 (Or.inr (slot_ne (Or.inl (hw _ (List.mem_of_getElem? (i := 33) rfl))) (Or.inl (hw _ (List.mem_of_getElem? (i := 20) rfl))) (by decide) (t := .long) (t' := (.object "com/example/seqlint/seqlint/kafka/Batch$Marker")) (by decide) (by decide))))
  have fc45 : Fld Z h40 a1 "com/example/seqlint/seqlint/kafka/Batch" "computedCrc" "J" (.long (-1 : Int64)) := (((((((((Fw13.other W16 (Or.inr (slot_ne (Or.inl (hw _ (List.mem_of_getElem? (i := 18) rfl))) (Or.inl (hw _ (List.mem_of_getElem? (i := 36) rfl))) (by decide) (t := .long) (t' := .short) (by decide) (by decide)))).other W19 (Or.inr (slot_ne (Or.inl (hw _ (List.mem_of_getElem? (i := 18) rfl))) (Or.inl (hw _ (List.mem_of_getElem? (i := 38) rfl))) (by decide) (t := .long) (t' := .int) (by decide) (by decide)))).other W22 (Or.inr (slot_ne (Or.inl (hw _ (List.mem_of_getElem? (i := 18) rfl))) (Or.inl (hw _ (List.mem_of_getElem? (i := 40) rfl))) (by decide) (t := .long) (t' := .long) (by decide) (by decide)))).other W25 (Or.inr (slot_ne (Or.inl (hw _ (List.mem_of_getElem? (i := 18) rfl))) (Or.inl (hw _ (List.mem_of_getElem? (i := 42) rfl))) (by decide) (t := .long) (t' := .long) (by decide) (by decide)))).other W28 (Or.inr (slot_ne (Or.inl (hw _ (List.mem_of_getElem? (i := 18) rfl))) (Or.inl (hw _ (List.mem_of_getElem? (i := 44) rfl))) (by decide) (t := .long) (t' := .long) (by decide) (by decide)))).other W31 (Or.inr (slot_ne (Or.inl (hw _ (List.mem_of_getElem? (i := 18) rfl))) (Or.inl (hw _ (List.mem_of_getElem? (i := 46) rfl))) (by decide) (t := .long) (t' := .short) (by decide) (by decide)))).other W34 (Or.inr (slot_ne (Or.inl (hw _ (List.mem_of_getElem? (i := 18) rfl))) (Or.inl (hw _ (List.mem_of_getElem? (i := 48) rfl))) (by decide) (t := .long) (t' := .int) (by decide) (by decide)))).other W37 (Or.inr (slot_ne (Or.inl (hw _ (List.mem_of_getElem? (i := 18) rfl))) (Or.inl (hw _ (List.mem_of_getElem? (i := 50) rfl))) (by decide) (t := .long) (t' := .int) (by decide) (by decide)))).other W40 (Or.inr (slot_ne (Or.inl (hw _ (List.mem_of_getElem? (i := 18) rfl))) (Or.inl (hw _ (List.mem_of_getElem? (i := 20) rfl))) (by decide) (t := .long) (t' := (.object "com/example/seqlint/seqlint/kafka/Batch$Marker")) (by decide) (by decide))))
  have fc46 : Fld Z h40 a1 "com/example/seqlint/seqlint/kafka/Batch" "attributes" "S" (.int p6) := ((((((((Fw16.other W19 (Or.inr (slot_ne (Or.inl (hw _ (List.mem_of_getElem? (i := 36) rfl))) (Or.inl (hw _ (List.mem_of_getElem? (i := 38) rfl))) (by decide) (t := .short) (t' := .int) (by decide) (by decide)))).other W22 (Or.inr (slot_ne (Or.inl (hw _ (List.mem_of_getElem? (i := 36) rfl))) (Or.inl (hw _ (List.mem_of_getElem? (i := 40) rfl))) (by decide) (t := .short) (t' := .long) (by decide) (by decide)))).other W25 (Or.inr (slot_ne (Or.inl (hw _ (List.mem_of_getElem? (i := 36) rfl))) (Or.inl (hw _ (List.mem_of_getElem? (i := 42) rfl))) (by decide) (t := .short) (t' := .long) (by decide) (by decide)))).other W28 (Or.inr (slot_ne (Or.inl (hw _ (List.mem_of_getElem? (i := 36) rfl))) (Or.inl (hw _ (List.mem_of_getElem? (i := 44) rfl))) (by decide) (t := .short) (t' := .long) (by decide) (by decide)))).other W31 (Or.inr (slot_ne (Or.inl (hw _ (List.mem_of_getElem? (i := 36) rfl))) (Or.inl (hw _ (List.mem_of_getElem? (i := 46) rfl))) (by decide) (t := .short) (t' := .short) (by decide) (by decide)))).other W34 (Or.inr (slot_ne (Or.inl (hw _ (List.mem_of_getElem? (i := 36) rfl))) (Or.inl (hw _ (List.mem_of_getElem? (i := 48) rfl))) (by decide) (t := .short) (t' := .int) (by decide) (by decide)))).other W37 (Or.inr (slot_ne (Or.inl (hw _ (List.mem_of_getElem? (i := 36) rfl))) (Or.inl (hw _ (List.mem_of_getElem? (i := 50) rfl))) (by decide) (t := .short) (t' := .int) (by decide) (by decide)))).other W40 (Or.inr (slot_ne (Or.inl (hw _ (List.mem_of_getElem? (i := 36) rfl))) (Or.inl (hw _ (List.mem_of_getElem? (i := 20) rfl))) (by decide) (t := .short) (t' := (.object "com/example/seqlint/seqlint/kafka/Batch$Marker")) (by decide) (by decide))))
  have fc47 : Fld Z h40 a1 "com/example/seqlint/seqlint/kafka/Batch" "lastOffsetDelta" "I" (.int p7) := (((((((Fw19.other W22 (Or.inr (slot_ne (Or.inl (hw _ (List.mem_of_getElem? (i := 38) rfl))) (Or.inl (hw _ (List.mem_of_getElem? (i := 40) rfl))) (by decide) (t := .int) (t' := .long) (by decide) (by decide)))).other W25 (Or.inr (slot_ne (Or.inl (hw _ (List.mem_of_getElem? (i := 38) rfl))) (Or.inl (hw _ (List.mem_of_getElem? (i := 42) rfl))) (by decide) (t := .int) (t' := .long) (by decide) (by decide)))).other W28 (Or.inr (slot_ne (Or.inl (hw _ (List.mem_of_getElem? (i := 38) rfl))) (Or.inl (hw _ (List.mem_of_getElem? (i := 44) rfl))) (by decide) (t := .int) (t' := .long) (by decide) (by decide)))).other W31 (Or.inr (slot_ne (Or.inl (hw _ (List.mem_of_getElem? (i := 38) rfl))) (Or.inl (hw _ (List.mem_of_getElem? (i := 46) rfl))) (by decide) (t := .int) (t' := .short) (by decide) (by decide)))).other W34 (Or.inr (slot_ne (Or.inl (hw _ (List.mem_of_getElem? (i := 38) rfl))) (Or.inl (hw _ (List.mem_of_getElem? (i := 48) rfl))) (by decide) (t := .int) (t' := .int) (by decide) (by decide)))).other W37 (Or.inr (slot_ne (Or.inl (hw _ (List.mem_of_getElem? (i := 38) rfl))) (Or.inl (hw _ (List.mem_of_getElem? (i := 50) rfl))) (by decide) (t := .int) (t' := .int) (by decide) (by decide)))).other W40 (Or.inr (slot_ne (Or.inl (hw _ (List.mem_of_getElem? (i := 38) rfl))) (Or.inl (hw _ (List.mem_of_getElem? (i := 20) rfl))) (by decide) (t := .int) (t' := (.object "com/example/seqlint/seqlint/kafka/Batch$Marker")) (by decide) (by decide))))
  have fc48 : Fld Z h40 a1 "com/example/seqlint/seqlint/kafka/Batch" "firstTimestamp" "J" (.long q8) := ((((((Fw22.other W25 (Or.inr (slot_ne (Or.inl (hw _ (List.mem_of_getElem? (i := 40) rfl))) (Or.inl (hw _ (List.mem_of_getElem? (i := 42) rfl))) (by decide) (t := .long) (t' := .long) (by decide) (by decide)))).other W28 (Or.inr (slot_ne (Or.inl (hw _ (List.mem_of_getElem? (i := 40) rfl))) (Or.inl (hw _ (List.mem_of_getElem? (i := 44) rfl))) (by decide) (t := .long) (t' := .long) (by decide) (by decide)))).other W31 (Or.inr (slot_ne (Or.inl (hw _ (List.mem_of_getElem? (i := 40) rfl))) (Or.inl (hw _ (List.mem_of_getElem? (i := 46) rfl))) (by decide) (t := .long) (t' := .short) (by decide) (by decide)))).other W34 (Or.inr (slot_ne (Or.inl (hw _ (List.mem_of_getElem? (i := 40) rfl))) (Or.inl (hw _ (List.mem_of_getElem? (i := 48) rfl))) (by decide) (t := .long) (t' := .int) (by decide) (by decide)))).other W37 (Or.inr (slot_ne (Or.inl (hw _ (List.mem_of_getElem? (i := 40) rfl))) (Or.inl (hw _ (List.mem_of_getElem? (i := 50) rfl))) (by decide) (t := .long) (t' := .int) (by decide) (by decide)))).other W40 (Or.inr (slot_ne (Or.inl (hw _ (List.mem_of_getElem? (i := 40) rfl))) (Or.inl (hw _ (List.mem_of_getElem? (i := 20) rfl))) (by decide) (t := .long) (t' := (.object "com/example/seqlint/seqlint/kafka/Batch$Marker")) (by decide) (by decide))))
  have fc49 : Fld Z h40 a1 "com/example/seqlint/seqlint/kafka/Batch" "maxTimestamp" "J" (.long q9) := (((((Fw25.other W28 (Or.inr (slot_ne (Or.inl (hw _ (List.mem_of_getElem? (i := 42) rfl))) (Or.inl (hw _ (List.mem_of_getElem? (i := 44) rfl))) (by decide) (t := .long) (t' := .long) (by decide) (by decide)))).other W31 (Or.inr (slot_ne (Or.inl (hw _ (List.mem_of_getElem? (i := 42) rfl))) (Or.inl (hw _ (List.mem_of_getElem? (i := 46) rfl))) (by decide) (t := .long) (t' := .short) (by decide) (by decide)))).other W34 (Or.inr (slot_ne (Or.inl (hw _ (List.mem_of_getElem? (i := 42) rfl))) (Or.inl (hw _ (List.mem_of_getElem? (i := 48) rfl))) (by decide) (t := .long) (t' := .int) (by decide) (by decide)))).other W37 (Or.inr (slot_ne (Or.inl (hw _ (List.mem_of_getElem? (i := 42) rfl))) (Or.inl (hw _ (List.mem_of_getElem? (i := 50) rfl))) (by decide) (t := .long) (t' := .int) (by decide) (by decide)))).other W40 (Or.inr (slot_ne (Or.inl (hw _ (List.mem_of_getElem? (i := 42) rfl))) (Or.inl (hw _ (List.mem_of_getElem? (i := 20) rfl))) (by decide) (t := .long) (t' := (.object "com/example/seqlint/seqlint/kafka/Batch$Marker")) (by decide) (by decide))))
  have fc50 : Fld Z h40 a1 "com/example/seqlint/seqlint/kafka/Batch" "producerId" "J" (.long q10) := ((((Fw28.other W31 (Or.inr (slot_ne (Or.inl (hw _ (List.mem_of_getElem? (i := 44) rfl))) (Or.inl (hw _ (List.mem_of_getElem? (i := 46) rfl))) (by decide) (t := .long) (t' := .short) (by decide) (by decide)))).other W34 (Or.inr (slot_ne (Or.inl (hw _ (List.mem_of_getElem? (i := 44) rfl))) (Or.inl (hw _ (List.mem_of_getElem? (i := 48) rfl))) (by decide) (t := .long) (t' := .int) (by decide) (by decide)))).other W37 (Or.inr (slot_ne (Or.inl (hw _ (List.mem_of_getElem? (i := 44) rfl))) (Or.inl (hw _ (List.mem_of_getElem? (i := 50) rfl))) (by decide) (t := .long) (t' := .int) (by decide) (by decide)))).other W40 (Or.inr (slot_ne (Or.inl (hw _ (List.mem_of_getElem? (i := 44) rfl))) (Or.inl (hw _ (List.mem_of_getElem? (i := 20) rfl))) (by decide) (t := .long) (t' := (.object "com/example/seqlint/seqlint/kafka/Batch$Marker")) (by decide) (by decide))))
  have fc51 : Fld Z h40 a1 "com/example/seqlint/seqlint/kafka/Batch" "producerEpoch" "S" (.int p11) := (((Fw31.other W34 (Or.inr (slot_ne (Or.inl (hw _ (List.mem_of_getElem? (i := 46) rfl))) (Or.inl (hw _ (List.mem_of_getElem? (i := 48) rfl))) (by decide) (t := .short) (t' := .int) (by decide) (by decide)))).other W37 (Or.inr (slot_ne (Or.inl (hw _ (List.mem_of_getElem? (i := 46) rfl))) (Or.inl (hw _ (List.mem_of_getElem? (i := 50) rfl))) (by decide) (t := .short) (t' := .int) (by decide) (by decide)))).other W40 (Or.inr (slot_ne (Or.inl (hw _ (List.mem_of_getElem? (i := 46) rfl))) (Or.inl (hw _ (List.mem_of_getElem? (i := 20) rfl))) (by decide) (t := .short) (t' := (.object "com/example/seqlint/seqlint/kafka/Batch$Marker")) (by decide) (by decide))))
  have fc52 : Fld Z h40 a1 "com/example/seqlint/seqlint/kafka/Batch" "baseSequence" "I" (.int p12) := ((Fw34.other W37 (Or.inr (slot_ne (Or.inl (hw _ (List.mem_of_getElem? (i := 48) rfl))) (Or.inl (hw _ (List.mem_of_getElem? (i := 50) rfl))) (by decide) (t := .int) (t' := .int) (by decide) (by decide)))).other W40 (Or.inr (slot_ne (Or.inl (hw _ (List.mem_of_getElem? (i := 48) rfl))) (Or.inl (hw _ (List.mem_of_getElem? (i := 20) rfl))) (by decide) (t := .int) (t' := (.object "com/example/seqlint/seqlint/kafka/Batch$Marker")) (by decide) (by decide))))
  have fc53 : Fld Z h40 a1 "com/example/seqlint/seqlint/kafka/Batch" "recordCount" "I" (.int p13) := (Fw37.other W40 (Or.inr (slot_ne (Or.inl (hw _ (List.mem_of_getElem? (i := 50) rfl))) (Or.inl (hw _ (List.mem_of_getElem? (i := 20) rfl))) (by decide) (t := .int) (t' := (.object "com/example/seqlint/seqlint/kafka/Batch$Marker")) (by decide) (by decide))))
  refine Goes.ret X40 none (fun _ => rfl) (BodyLoose.notSynchronized Bd) (by decide) (by decide) (fun fs hr => X40.returnOut hx Bd.returns (hb hby d4_82) hr) ?_
  show Q_rmset Z a1 q2 q3 p4 q5 p6 p7 q8 q9 q10 p11 p12 p13 u_position u_baseOffset u_leaderEpoch u_storedCrc u_computedCrc u_attributes u_lastOffsetDelta u_firstTimestamp u_maxTimestamp u_producerId u_producerEpoch u_baseSequence u_recordCount u_marker h0 n0 _ T40.heap _
  rw [e40]
  exact ⟨rfl, N40, K40, fc41, fc42, fc43, fc44, fc45, fc46, fc47, fc48, fc49, fc50, fc51, fc52, fc53, Fw40⟩
theorem d3_0 : decode prog_49_method_3_code 0 = .ok (.aload_n 0, 1) := by decide +kernel
theorem d3_1 : decode prog_49_method_3_code 1 = .ok (.lload_n 1, 1) := by decide +kernel
theorem d3_2 : decode prog_49_method_3_code 2 = .ok (.putfield 25, 3) := by decide +kernel
theorem d3_5 : decode prog_49_method_3_code 5 = .ok (.aload_n 0, 1) := by decide +kernel
theorem d3_6 : decode prog_49_method_3_code 6 = .ok (.aload_n 3, 1) := by decide +kernel
theorem d3_7 : decode prog_49_method_3_code 7 = .ok (.putfield 53, 3) := by decide +kernel
theorem d3_10 : decode prog_49_method_3_code 10 = .ok (.return_, 1) := by decide +kernel
def Q_rm3 (Z : State) (a1 : Addr) (q2 : Int64) (u1 : Value) (u2 : Value) (f_position : Int64) (f_baseOffset : Int64) (f_leaderEpoch : Int32) (f_storedCrc : Int64) (f_attributes : Int32) (f_lastOffsetDelta : Int32) (f_firstTimestamp : Int64) (f_maxTimestamp : Int64) (f_producerId : Int64) (f_producerEpoch : Int32) (f_baseSequence : Int32) (f_recordCount : Int32) (h0 : Heap) (n0 : Nat) (v : Option Value) (h : Heap) (L : List Loc) : Prop := v = none ∧ Fr n0 L ∧ Keep h0 h [a1] ∧ (Fld Z h a1 "com/example/seqlint/seqlint/kafka/Batch" "computedCrc" "J" (.long q2)) ∧ (Fld Z h a1 "com/example/seqlint/seqlint/kafka/Batch" "position" "J" (.long f_position)) ∧ (Fld Z h a1 "com/example/seqlint/seqlint/kafka/Batch" "baseOffset" "J" (.long f_baseOffset)) ∧ (Fld Z h a1 "com/example/seqlint/seqlint/kafka/Batch" "leaderEpoch" "I" (.int f_leaderEpoch)) ∧ (Fld Z h a1 "com/example/seqlint/seqlint/kafka/Batch" "storedCrc" "J" (.long f_storedCrc)) ∧ (Fld Z h a1 "com/example/seqlint/seqlint/kafka/Batch" "attributes" "S" (.int f_attributes)) ∧ (Fld Z h a1 "com/example/seqlint/seqlint/kafka/Batch" "lastOffsetDelta" "I" (.int f_lastOffsetDelta)) ∧ (Fld Z h a1 "com/example/seqlint/seqlint/kafka/Batch" "firstTimestamp" "J" (.long f_firstTimestamp)) ∧ (Fld Z h a1 "com/example/seqlint/seqlint/kafka/Batch" "maxTimestamp" "J" (.long f_maxTimestamp)) ∧ (Fld Z h a1 "com/example/seqlint/seqlint/kafka/Batch" "producerId" "J" (.long f_producerId)) ∧ (Fld Z h a1 "com/example/seqlint/seqlint/kafka/Batch" "producerEpoch" "S" (.int f_producerEpoch)) ∧ (Fld Z h a1 "com/example/seqlint/seqlint/kafka/Batch" "baseSequence" "I" (.int f_baseSequence)) ∧ (Fld Z h a1 "com/example/seqlint/seqlint/kafka/Batch" "recordCount" "I" (.int f_recordCount))
theorem ef_rm3 (m : MethodId) (a1 : Addr) (q2 : Int64) : entryFrame m #[(.ref a1), (.long q2), .null] 4 = mkF m 0 #[.val (.ref a1), .val (.long q2), .second, .val .null] [] := by first | (simp [entryFrame, mkF, argsToLocals, Value.category]; done) | rfl
set_option maxRecDepth 65536 in
set_option maxHeartbeats 40000000 in
theorem rm3 (l : Launch) (Z : State) (a0 : Array Value) (hw : ∀ d ∈ tables_1, d.before a0 Z = true) (ws : List Jvm.Cond) (a1 : Addr) (q2 : Int64) (u1 : Value) (u2 : Value) (f_position : Int64) (f_baseOffset : Int64) (f_leaderEpoch : Int32) (f_storedCrc : Int64) (f_attributes : Int32) (f_lastOffsetDelta : Int32) (f_firstTimestamp : Int64) (f_maxTimestamp : Int64) (f_producerId : Int64) (f_producerEpoch : Int32) (f_baseSequence : Int32) (f_recordCount : Int32) (h0 : Heap) (n0 : Nat) (Z0 : n0 ≤ h0.size) (pf_E_a1 : Exa Z h0 a1 "com/example/seqlint/seqlint/kafka/Batch") (pf_G_a1 : n0 ≤ a1) (pf_F_a1_com_example_seqlint_seqlint_kafka_Batch_computedCrc : Fld Z h0 a1 "com/example/seqlint/seqlint/kafka/Batch" "computedCrc" "J" u1) (pf_F_a1_com_example_seqlint_seqlint_kafka_Batch_marker : Fld Z h0 a1 "com/example/seqlint/seqlint/kafka/Batch" "marker" "Lcom/example/seqlint/seqlint/kafka/Batch$Marker;" u2) (pf_F_a1_com_example_seqlint_seqlint_kafka_Batch_position : Fld Z h0 a1 "com/example/seqlint/seqlint/kafka/Batch" "position" "J" (.long f_position)) (pf_F_a1_com_example_seqlint_seqlint_kafka_Batch_baseOffset : Fld Z h0 a1 "com/example/seqlint/seqlint/kafka/Batch" "baseOffset" "J" (.long f_baseOffset)) (pf_F_a1_com_example_seqlint_seqlint_kafka_Batch_leaderEpoch : Fld Z h0 a1 "com/example/seqlint/seqlint/kafka/Batch" "leaderEpoch" "I" (.int f_leaderEpoch)) (pf_F_a1_com_example_seqlint_seqlint_kafka_Batch_storedCrc : Fld Z h0 a1 "com/example/seqlint/seqlint/kafka/Batch" "storedCrc" "J" (.long f_storedCrc)) (pf_F_a1_com_example_seqlint_seqlint_kafka_Batch_attributes : Fld Z h0 a1 "com/example/seqlint/seqlint/kafka/Batch" "attributes" "S" (.int f_attributes)) (pf_F_a1_com_example_seqlint_seqlint_kafka_Batch_lastOffsetDelta : Fld Z h0 a1 "com/example/seqlint/seqlint/kafka/Batch" "lastOffsetDelta" "I" (.int f_lastOffsetDelta)) (pf_F_a1_com_example_seqlint_seqlint_kafka_Batch_firstTimestamp : Fld Z h0 a1 "com/example/seqlint/seqlint/kafka/Batch" "firstTimestamp" "J" (.long f_firstTimestamp)) (pf_F_a1_com_example_seqlint_seqlint_kafka_Batch_maxTimestamp : Fld Z h0 a1 "com/example/seqlint/seqlint/kafka/Batch" "maxTimestamp" "J" (.long f_maxTimestamp)) (pf_F_a1_com_example_seqlint_seqlint_kafka_Batch_producerId : Fld Z h0 a1 "com/example/seqlint/seqlint/kafka/Batch" "producerId" "J" (.long f_producerId)) (pf_F_a1_com_example_seqlint_seqlint_kafka_Batch_producerEpoch : Fld Z h0 a1 "com/example/seqlint/seqlint/kafka/Batch" "producerEpoch" "S" (.int f_producerEpoch)) (pf_F_a1_com_example_seqlint_seqlint_kafka_Batch_baseSequence : Fld Z h0 a1 "com/example/seqlint/seqlint/kafka/Batch" "baseSequence" "I" (.int f_baseSequence)) (pf_F_a1_com_example_seqlint_seqlint_kafka_Batch_recordCount : Fld Z h0 a1 "com/example/seqlint/seqlint/kafka/Batch" "recordCount" "I" (.int f_recordCount)) :
    MetFree l (⟨"com/example/seqlint/seqlint/kafka/Batch", "setRecordsRead", "(JLcom/example/seqlint/seqlint/kafka/Batch$Marker;)V"⟩ : MethodName) (head1 (Jvm.Cond.code (⟨"com/example/seqlint/seqlint/kafka/Batch", "setRecordsRead", "(JLcom/example/seqlint/seqlint/kafka/Batch$Marker;)V"⟩ : MethodName) prog_49_method_3_code 4 none :: ws) ({ frames := 0, cells := 0, slots := 0, locals := 0 } : Room)) (fun a U => a = #[(.ref a1), (.long q2), .null] ∧ Z.Warmed39 U.vm ∧ U.heap = h0) (fun _ _ _ _ _ => True) (fun _ U o U' => ∃ v L, o = .returned v ∧ Q_rm3 Z a1 q2 u1 u2 f_position f_baseOffset f_leaderEpoch f_storedCrc f_attributes f_lastOffsetDelta f_firstTimestamp f_maxTimestamp f_producerId f_producerEpoch f_baseSequence f_recordCount h0 n0 v U'.heap L ∧ FrameEnd U o U' L ({ frames := 0, cells := 0, slots := 0, locals := 0 } : Room).cells ({ frames := 0, cells := 0, slots := 0, locals := 0 } : Room).slots) := by
  refine MetFree.of_bodySF (plainFor_of_name pn_0) hisR ?_
  intro p e s m args below meth c s₁ Bd hml0 hP hK
  obtain ⟨rfl, hZ, hh⟩ := hP
  have hx := Bd.exec
  have hby := Bd.bytes
  have hml : c.maxLocals = 4 := hml0
  have hown : s.vm.findClass "com/example/seqlint/seqlint/kafka/Batch" = some m.cls := findClass_of_methodNamed Bd.named
  have hnm := (name_of_methodNamed Bd.named Bd.method).1
  have X0 : Stand p l e ({ frames := 0, cells := 0, slots := 0, locals := 0 } : Room) s m #[(.ref a1), (.long q2), .null] below meth c s₁ [] 0 0 := Stand.of_body Bd
  have e0 : s₁.heap = h0 := by rw [← hh, Bd.state]; rfl
  have N0 := Fr.nil n0
  have K0 := Keep.refl h0 [a1]
  show Goes p e below s (Q_rm3 Z a1 q2 u1 u2 f_position f_baseOffset f_leaderEpoch f_storedCrc f_attributes f_lastOffsetDelta f_firstTimestamp f_maxTimestamp f_producerId f_producerEpoch f_baseSequence f_recordCount h0 n0) ({ frames := 0, cells := 0, slots := 0, locals := 0 } : Room).cells ({ frames := 0, cells := 0, slots := 0, locals := 0 } : Room).slots (s₁.setTop (entryFrame m #[(.ref a1), (.long q2), .null] 4))
  refine Goes.pre (fun t kt => castTop (ef_rm3 m a1 q2) kt) ?_
  show Goes p e below s _ _ _ (s₁.setTop (mkF m 0 #[.val (.ref a1), .val (.long q2), .second, .val .null] []))
  refine Goes.pre (fun t kt => XS.aloadN X0.here hx rfl (hb hby d3_0) rfl rfl kt) ?_
  show Goes p e below s _ _ _ (s₁.setTop (mkF m 1 #[.val (.ref a1), .val (.long q2), .second, .val .null] [(.ref a1)]))
  refine Goes.pre (fun t kt => XS.lloadN X0.here hx rfl (hb hby d3_1) rfl kt) ?_
  show Goes p e below s _ _ _ (s₁.setTop (mkF m 2 #[.val (.ref a1), .val (.long q2), .second, .val .null] [(.long q2), (.ref a1)]))
  obtain ⟨T1, h1, X1, e1, W1, st1⟩ := putF X0 hx hZ hown (host := "") (Or.inl (hw _ (List.mem_of_getElem? (i := 17) rfl))) Via.refl e0 pf_F_a1_com_example_seqlint_seqlint_kafka_Batch_computedCrc pf_E_a1 (Or.inl (hw _ (List.mem_of_getElem? (i := 18) rfl))) (hw _ (List.mem_of_getElem? (i := 1) rfl)) (ty := .long) (by decide) rfl rfl (g := (mkF m 2 #[.val (.ref a1), .val (.long q2), .second, .val .null] [(.long q2), (.ref a1)])) rfl rfl (hb hby d3_2)
  refine Goes.pre st1 ?_
  have Z1 : n0 ≤ h1.size := Nat.le_trans Z0 (Keep.of_wr W1).1
  have N1 := Fr.snoc X1 N0 pf_G_a1
  have K1 := K0.wr W1 (Or.inl (List.mem_of_getElem? (i := 0) rfl))
  have Fw1 : Fld Z h1 a1 "com/example/seqlint/seqlint/kafka/Batch" "computedCrc" "J" (.long q2) := pf_F_a1_com_example_seqlint_seqlint_kafka_Batch_computedCrc.same W1
  show Goes p e below s _ _ _ (T1.setTop (mkF m 5 #[.val (.ref a1), .val (.long q2), .second, .val .null] []))
  refine Goes.pre (fun t kt => XS.aloadN X1.here hx rfl (hb hby d3_5) rfl rfl kt) ?_
  show Goes p e below s _ _ _ (T1.setTop (mkF m 6 #[.val (.ref a1), .val (.long q2), .second, .val .null] [(.ref a1)]))
  refine Goes.pre (fun t kt => XS.aloadN X1.here hx rfl (hb hby d3_6) rfl rfl kt) ?_
  show Goes p e below s _ _ _ (T1.setTop (mkF m 7 #[.val (.ref a1), .val (.long q2), .second, .val .null] [.null, (.ref a1)]))
  have fc2 : Fld Z h1 a1 "com/example/seqlint/seqlint/kafka/Batch" "marker" "Lcom/example/seqlint/seqlint/kafka/Batch$Marker;" u2 := (pf_F_a1_com_example_seqlint_seqlint_kafka_Batch_marker.other W1 (Or.inr (slot_ne (Or.inl (hw _ (List.mem_of_getElem? (i := 20) rfl))) (Or.inl (hw _ (List.mem_of_getElem? (i := 18) rfl))) (by decide) (t := (.object "com/example/seqlint/seqlint/kafka/Batch$Marker")) (t' := .long) (by decide) (by decide))))
  have fc3 : Exa Z h1 a1 "com/example/seqlint/seqlint/kafka/Batch" := (pf_E_a1.wr W1)
  obtain ⟨T4, h4, X4, e4, W4, st4⟩ := putF X1 hx hZ hown (host := "") (Or.inl (hw _ (List.mem_of_getElem? (i := 19) rfl))) Via.refl e1 fc2 fc3 (Or.inl (hw _ (List.mem_of_getElem? (i := 20) rfl))) (hw _ (List.mem_of_getElem? (i := 1) rfl)) (ty := (.object "com/example/seqlint/seqlint/kafka/Batch$Marker")) (by decide) rfl rfl (g := (mkF m 7 #[.val (.ref a1), .val (.long q2), .second, .val .null] [.null, (.ref a1)])) rfl rfl (hb hby d3_7)
  refine Goes.pre st4 ?_
  have Z4 : n0 ≤ h4.size := Nat.le_trans Z1 (Keep.of_wr W4).1
  have N4 := Fr.snoc X4 N1 pf_G_a1
  have K4 := K1.wr W4 (Or.inl (List.mem_of_getElem? (i := 0) rfl))
  have Fw4 : Fld Z h4 a1 "com/example/seqlint/seqlint/kafka/Batch" "marker" "Lcom/example/seqlint/seqlint/kafka/Batch$Marker;" .null := fc2.same W4
  show Goes p e below s _ _ _ (T4.setTop (mkF m 10 #[.val (.ref a1), .val (.long q2), .second, .val .null] []))
  have fc5 : Fld Z h4 a1 "com/example/seqlint/seqlint/kafka/Batch" "computedCrc" "J" (.long q2) := (Fw1.other W4 (Or.inr (slot_ne (Or.inl (hw _ (List.mem_of_getElem? (i := 18) rfl))) (Or.inl (hw _ (List.mem_of_getElem? (i := 20) rfl))) (by decide) (t := .long) (t' := (.object "com/example/seqlint/seqlint/kafka/Batch$Marker")) (by decide) (by decide))))
  have fc6 : Fld Z h4 a1 "com/example/seqlint/seqlint/kafka/Batch" "position" "J" (.long f_position) := ((pf_F_a1_com_example_seqlint_seqlint_kafka_Batch_position.other W1 (Or.inr (slot_ne (Or.inl (hw _ (List.mem_of_getElem? (i := 27) rfl))) (Or.inl (hw _ (List.mem_of_getElem? (i := 18) rfl))) (by decide) (t := .long) (t' := .long) (by decide) (by decide)))).other W4 (Or.inr (slot_ne (Or.inl (hw _ (List.mem_of_getElem? (i := 27) rfl))) (Or.inl (hw _ (List.mem_of_getElem? (i := 20) rfl))) (by decide) (t := .long) (t' := (.object "com/example/seqlint/seqlint/kafka/Batch$Marker")) (by decide) (by decide))))
  have fc7 : Fld Z h4 a1 "com/example/seqlint/seqlint/kafka/Batch" "baseOffset" "J" (.long f_baseOffset) := ((pf_F_a1_com_example_seqlint_seqlint_kafka_Batch_baseOffset.other W1 (Or.inr (slot_ne (Or.inl (hw _ (List.mem_of_getElem? (i := 29) rfl))) (Or.inl (hw _ (List.mem_of_getElem? (i := 18) rfl))) (by decide) (t := .long) (t' := .long) (by decide) (by decide)))).other W4 (Or.inr (slot_ne (Or.inl (hw _ (List.mem_of_getElem? (i := 29) rfl))) (Or.inl (hw _ (List.mem_of_getElem? (i := 20) rfl))) (by decide) (t := .long) (t' := (.object "com/example/seqlint/seqlint/kafka/Batch$Marker")) (by decide) (by decide))))
  have fc8 : Fld Z h4 a1 "com/example/seqlint/seqlint/kafka/Batch" "leaderEpoch" "I" (.int f_leaderEpoch) := ((pf_F_a1_com_example_seqlint_seqlint_kafka_Batch_leaderEpoch.other W1 (Or.inr (slot_ne (Or.inl (hw _ (List.mem_of_getElem? (i := 31) rfl))) (Or.inl (hw _ (List.mem_of_getElem? (i := 18) rfl))) (by decide) (t := .int) (t' := .long) (by decide) (by decide)))).other W4 (Or.inr (slot_ne (Or.inl (hw _ (List.mem_of_getElem? (i := 31) rfl))) (Or.inl (hw _ (List.mem_of_getElem? (i := 20) rfl))) (by decide) (t := .int) (t' := (.object "com/example/seqlint/seqlint/kafka/Batch$Marker")) (by decide) (by decide))))
  have fc9 : Fld Z h4 a1 "com/example/seqlint/seqlint/kafka/Batch" "storedCrc" "J" (.long f_storedCrc) := ((pf_F_a1_com_example_seqlint_seqlint_kafka_Batch_storedCrc.other W1 (Or.inr (slot_ne (Or.inl (hw _ (List.mem_of_getElem? (i := 33) rfl))) (Or.inl (hw _ (List.mem_of_getElem? (i := 18) rfl))) (by decide) (t := .long) (t' := .long) (by decide) (by decide)))).other W4 (Or.inr (slot_ne (Or.inl (hw _ (List.mem_of_getElem? (i := 33) rfl))) (Or.inl (hw _ (List.mem_of_getElem? (i := 20) rfl))) (by decide) (t := .long) (t' := (.object "com/example/seqlint/seqlint/kafka/Batch$Marker")) (by decide) (by decide))))
  have fc10 : Fld Z h4 a1 "com/example/seqlint/seqlint/kafka/Batch" "attributes" "S" (.int f_attributes) := ((pf_F_a1_com_example_seqlint_seqlint_kafka_Batch_attributes.other W1 (Or.inr (slot_ne (Or.inl (hw _ (List.mem_of_getElem? (i := 36) rfl))) (Or.inl (hw _ (List.mem_of_getElem? (i := 18) rfl))) (by decide) (t := .short) (t' := .long) (by decide) (by decide)))).other W4 (Or.inr (slot_ne (Or.inl (hw _ (List.mem_of_getElem? (i := 36) rfl))) (Or.inl (hw _ (List.mem_of_getElem? (i := 20) rfl))) (by decide) (t := .short) (t' := (.object "com/example/seqlint/seqlint/kafka/Batch$Marker")) (by decide) (by decide))))
  have fc11 : Fld Z h4 a1 "com/example/seqlint/seqlint/kafka/Batch" "lastOffsetDelta" "I" (.int f_lastOffsetDelta) := ((pf_F_a1_com_example_seqlint_seqlint_kafka_Batch_lastOffsetDelta.other W1 (Or.inr (slot_ne (Or.inl (hw _ (List.mem_of_getElem? (i := 38) rfl))) (Or.inl (hw _ (List.mem_of_getElem? (i := 18) rfl))) (by decide) (t := .int) (t' := .long) (by decide) (by decide)))).other W4 (Or.inr (slot_ne (Or.inl (hw _ (List.mem_of_getElem? (i := 38) rfl))) (Or.inl (hw _ (List.mem_of_getElem? (i := 20) rfl))) (by decide) (t := .int) (t' := (.object "com/example/seqlint/seqlint/kafka/Batch$Marker")) (by decide) (by decide))))
  have fc12 : Fld Z h4 a1 "com/example/seqlint/seqlint/kafka/Batch" "firstTimestamp" "J" (.long f_firstTimestamp) := ((pf_F_a1_com_example_seqlint_seqlint_kafka_Batch_firstTimestamp.other W1 (Or.inr (slot_ne (Or.inl (hw _ (List.mem_of_getElem? (i := 40) rfl))) (Or.inl (hw _ (List.mem_of_getElem? (i := 18) rfl))) (by decide) (t := .long) (t' := .long) (by decide) (by decide)))).other W4 (Or.inr (slot_ne (Or.inl (hw _ (List.mem_of_getElem? (i := 40) rfl))) (Or.inl (hw _ (List.mem_of_getElem? (i := 20) rfl))) (by decide) (t := .long) (t' := (.object "com/example/seqlint/seqlint/kafka/Batch$Marker")) (by decide) (by decide))))
  have fc13 : Fld Z h4 a1 "com/example/seqlint/seqlint/kafka/Batch" "maxTimestamp" "J" (.long f_maxTimestamp) := ((pf_F_a1_com_example_seqlint_seqlint_kafka_Batch_maxTimestamp.other W1 (Or.inr (slot_ne (Or.inl (hw _ (List.mem_of_getElem? (i := 42) rfl))) (Or.inl (hw _ (List.mem_of_getElem? (i := 18) rfl))) (by decide) (t := .long) (t' := .long) (by decide) (by decide)))).other W4 (Or.inr (slot_ne (Or.inl (hw _ (List.mem_of_getElem? (i := 42) rfl))) (Or.inl (hw _ (List.mem_of_getElem? (i := 20) rfl))) (by decide) (t := .long) (t' := (.object "com/example/seqlint/seqlint/kafka/Batch$Marker")) (by decide) (by decide))))
  have fc14 : Fld Z h4 a1 "com/example/seqlint/seqlint/kafka/Batch" "producerId" "J" (.long f_producerId) := ((pf_F_a1_com_example_seqlint_seqlint_kafka_Batch_producerId.other W1 (Or.inr (slot_ne (Or.inl (hw _ (List.mem_of_getElem? (i := 44) rfl))) (Or.inl (hw _ (List.mem_of_getElem? (i := 18) rfl))) (by decide) (t := .long) (t' := .long) (by decide) (by decide)))).other W4 (Or.inr (slot_ne (Or.inl (hw _ (List.mem_of_getElem? (i := 44) rfl))) (Or.inl (hw _ (List.mem_of_getElem? (i := 20) rfl))) (by decide) (t := .long) (t' := (.object "com/example/seqlint/seqlint/kafka/Batch$Marker")) (by decide) (by decide))))
  have fc15 : Fld Z h4 a1 "com/example/seqlint/seqlint/kafka/Batch" "producerEpoch" "S" (.int f_producerEpoch) := ((pf_F_a1_com_example_seqlint_seqlint_kafka_Batch_producerEpoch.other W1 (Or.inr (slot_ne (Or.inl (hw _ (List.mem_of_getElem? (i := 46) rfl))) (Or.inl (hw _ (List.mem_of_getElem? (i := 18) rfl))) (by decide) (t := .short) (t' := .long) (by decide) (by decide)))).other W4 (Or.inr (slot_ne (Or.inl (hw _ (List.mem_of_getElem? (i := 46) rfl))) (Or.inl (hw _ (List.mem_of_getElem? (i := 20) rfl))) (by decide) (t := .short) (t' := (.object "com/example/seqlint/seqlint/kafka/Batch$Marker")) (by decide) (by decide))))
  have fc16 : Fld Z h4 a1 "com/example/seqlint/seqlint/kafka/Batch" "baseSequence" "I" (.int f_baseSequence) := ((pf_F_a1_com_example_seqlint_seqlint_kafka_Batch_baseSequence.other W1 (Or.inr (slot_ne (Or.inl (hw _ (List.mem_of_getElem? (i := 48) rfl))) (Or.inl (hw _ (List.mem_of_getElem? (i := 18) rfl))) (by decide) (t := .int) (t' := .long) (by decide) (by decide)))).other W4 (Or.inr (slot_ne (Or.inl (hw _ (List.mem_of_getElem? (i := 48) rfl))) (Or.inl (hw _ (List.mem_of_getElem? (i := 20) rfl))) (by decide) (t := .int) (t' := (.object "com/example/seqlint/seqlint/kafka/Batch$Marker")) (by decide) (by decide))))
  have fc17 : Fld Z h4 a1 "com/example/seqlint/seqlint/kafka/Batch" "recordCount" "I" (.int f_recordCount) := ((pf_F_a1_com_example_seqlint_seqlint_kafka_Batch_recordCount.other W1 (Or.inr (slot_ne (Or.inl (hw _ (List.mem_of_getElem? (i := 50) rfl))) (Or.inl (hw _ (List.mem_of_getElem? (i := 18) rfl))) (by decide) (t := .int) (t' := .long) (by decide) (by decide)))).other W4 (Or.inr (slot_ne (Or.inl (hw _ (List.mem_of_getElem? (i := 50) rfl))) (Or.inl (hw _ (List.mem_of_getElem? (i := 20) rfl))) (by decide) (t := .int) (t' := (.object "com/example/seqlint/seqlint/kafka/Batch$Marker")) (by decide) (by decide))))
  refine Goes.ret X4 none (fun _ => rfl) (BodyLoose.notSynchronized Bd) (by decide) (by decide) (fun fs hr => X4.returnOut hx Bd.returns (hb hby d3_10) hr) ?_
  show Q_rm3 Z a1 q2 u1 u2 f_position f_baseOffset f_leaderEpoch f_storedCrc f_attributes f_lastOffsetDelta f_firstTimestamp f_maxTimestamp f_producerId f_producerEpoch f_baseSequence f_recordCount h0 n0 _ T4.heap _
  rw [e4]
  exact ⟨rfl, N4, K4, fc5, fc6, fc7, fc8, fc9, fc10, fc11, fc12, fc13, fc14, fc15, fc16, fc17⟩
def Q_rm3c (Z : State) (a1 : Addr) (q2 : Int64) (a3 : Addr) (u1 : Value) (u2 : Value) (f_position : Int64) (f_baseOffset : Int64) (f_leaderEpoch : Int32) (f_storedCrc : Int64) (f_attributes : Int32) (f_lastOffsetDelta : Int32) (f_firstTimestamp : Int64) (f_maxTimestamp : Int64) (f_producerId : Int64) (f_producerEpoch : Int32) (f_baseSequence : Int32) (f_recordCount : Int32) (h0 : Heap) (n0 : Nat) (v : Option Value) (h : Heap) (L : List Loc) : Prop := v = none ∧ Fr n0 L ∧ Keep h0 h [a1] ∧ (Fld Z h a1 "com/example/seqlint/seqlint/kafka/Batch" "computedCrc" "J" (.long q2)) ∧ (Fld Z h a1 "com/example/seqlint/seqlint/kafka/Batch" "marker" "Lcom/example/seqlint/seqlint/kafka/Batch$Marker;" (.ref a3)) ∧ (Fld Z h a1 "com/example/seqlint/seqlint/kafka/Batch" "position" "J" (.long f_position)) ∧ (Fld Z h a1 "com/example/seqlint/seqlint/kafka/Batch" "baseOffset" "J" (.long f_baseOffset)) ∧ (Fld Z h a1 "com/example/seqlint/seqlint/kafka/Batch" "leaderEpoch" "I" (.int f_leaderEpoch)) ∧ (Fld Z h a1 "com/example/seqlint/seqlint/kafka/Batch" "storedCrc" "J" (.long f_storedCrc)) ∧ (Fld Z h a1 "com/example/seqlint/seqlint/kafka/Batch" "attributes" "S" (.int f_attributes)) ∧ (Fld Z h a1 "com/example/seqlint/seqlint/kafka/Batch" "lastOffsetDelta" "I" (.int f_lastOffsetDelta)) ∧ (Fld Z h a1 "com/example/seqlint/seqlint/kafka/Batch" "firstTimestamp" "J" (.long f_firstTimestamp)) ∧ (Fld Z h a1 "com/example/seqlint/seqlint/kafka/Batch" "maxTimestamp" "J" (.long f_maxTimestamp)) ∧ (Fld Z h a1 "com/example/seqlint/seqlint/kafka/Batch" "producerId" "J" (.long f_producerId)) ∧ (Fld Z h a1 "com/example/seqlint/seqlint/kafka/Batch" "producerEpoch" "S" (.int f_producerEpoch)) ∧ (Fld Z h a1 "com/example/seqlint/seqlint/kafka/Batch" "baseSequence" "I" (.int f_baseSequence)) ∧ (Fld Z h a1 "com/example/seqlint/seqlint/kafka/Batch" "recordCount" "I" (.int f_recordCount))
theorem ef_rm3c (m : MethodId) (a1 : Addr) (q2 : Int64) (a3 : Addr) : entryFrame m #[(.ref a1), (.long q2), (.ref a3)] 4 = mkF m 0 #[.val (.ref a1), .val (.long q2), .second, .val (.ref a3)] [] := by first | (simp [entryFrame, mkF, argsToLocals, Value.category]; done) | rfl
set_option maxRecDepth 65536 in
set_option maxHeartbeats 40000000 in
theorem rm3c (l : Launch) (Z : State) (a0 : Array Value) (hw : ∀ d ∈ tables_1, d.before a0 Z = true) (ws : List Jvm.Cond) (a1 : Addr) (q2 : Int64) (a3 : Addr) (u1 : Value) (u2 : Value) (f_position : Int64) (f_baseOffset : Int64) (f_leaderEpoch : Int32) (f_storedCrc : Int64) (f_attributes : Int32) (f_lastOffsetDelta : Int32) (f_firstTimestamp : Int64) (f_maxTimestamp : Int64) (f_producerId : Int64) (f_producerEpoch : Int32) (f_baseSequence : Int32) (f_recordCount : Int32) (h0 : Heap) (n0 : Nat) (Z0 : n0 ≤ h0.size) (pf_E_a1 : Exa Z h0 a1 "com/example/seqlint/seqlint/kafka/Batch") (pf_G_a1 : n0 ≤ a1) (pf_F_a1_com_example_seqlint_seqlint_kafka_Batch_computedCrc : Fld Z h0 a1 "com/example/seqlint/seqlint/kafka/Batch" "computedCrc" "J" u1) (pf_F_a1_com_example_seqlint_seqlint_kafka_Batch_marker : Fld Z h0 a1 "com/example/seqlint/seqlint/kafka/Batch" "marker" "Lcom/example/seqlint/seqlint/kafka/Batch$Marker;" u2) (pf_F_a1_com_example_seqlint_seqlint_kafka_Batch_position : Fld Z h0 a1 "com/example/seqlint/seqlint/kafka/Batch" "position" "J" (.long f_position)) (pf_F_a1_com_example_seqlint_seqlint_kafka_Batch_baseOffset : Fld Z h0 a1 "com/example/seqlint/seqlint/kafka/Batch" "baseOffset" "J" (.long f_baseOffset)) (pf_F_a1_com_example_seqlint_seqlint_kafka_Batch_leaderEpoch : Fld Z h0 a1 "com/example/seqlint/seqlint/kafka/Batch" "leaderEpoch" "I" (.int f_leaderEpoch)) (pf_F_a1_com_example_seqlint_seqlint_kafka_Batch_storedCrc : Fld Z h0 a1 "com/example/seqlint/seqlint/kafka/Batch" "storedCrc" "J" (.long f_storedCrc)) (pf_F_a1_com_example_seqlint_seqlint_kafka_Batch_attributes : Fld Z h0 a1 "com/example/seqlint/seqlint/kafka/Batch" "attributes" "S" (.int f_attributes)) (pf_F_a1_com_example_seqlint_seqlint_kafka_Batch_lastOffsetDelta : Fld Z h0 a1 "com/example/seqlint/seqlint/kafka/Batch" "lastOffsetDelta" "I" (.int f_lastOffsetDelta)) (pf_F_a1_com_example_seqlint_seqlint_kafka_Batch_firstTimestamp : Fld Z h0 a1 "com/example/seqlint/seqlint/kafka/Batch" "firstTimestamp" "J" (.long f_firstTimestamp)) (pf_F_a1_com_example_seqlint_seqlint_kafka_Batch_maxTimestamp : Fld Z h0 a1 "com/example/seqlint/seqlint/kafka/Batch" "maxTimestamp" "J" (.long f_maxTimestamp)) (pf_F_a1_com_example_seqlint_seqlint_kafka_Batch_producerId : Fld Z h0 a1 "com/example/seqlint/seqlint/kafka/Batch" "producerId" "J" (.long f_producerId)) (pf_F_a1_com_example_seqlint_seqlint_kafka_Batch_producerEpoch : Fld Z h0 a1 "com/example/seqlint/seqlint/kafka/Batch" "producerEpoch" "S" (.int f_producerEpoch)) (pf_F_a1_com_example_seqlint_seqlint_kafka_Batch_baseSequence : Fld Z h0 a1 "com/example/seqlint/seqlint/kafka/Batch" "baseSequence" "I" (.int f_baseSequence)) (pf_F_a1_com_example_seqlint_seqlint_kafka_Batch_recordCount : Fld Z h0 a1 "com/example/seqlint/seqlint/kafka/Batch" "recordCount" "I" (.int f_recordCount)) :
    MetFree l (⟨"com/example/seqlint/seqlint/kafka/Batch", "setRecordsRead", "(JLcom/example/seqlint/seqlint/kafka/Batch$Marker;)V"⟩ : MethodName) (head1 (Jvm.Cond.code (⟨"com/example/seqlint/seqlint/kafka/Batch", "setRecordsRead", "(JLcom/example/seqlint/seqlint/kafka/Batch$Marker;)V"⟩ : MethodName) prog_49_method_3_code 4 none :: ws) ({ frames := 0, cells := 0, slots := 0, locals := 0 } : Room)) (fun a U => a = #[(.ref a1), (.long q2), (.ref a3)] ∧ Z.Warmed39 U.vm ∧ U.heap = h0) (fun _ _ _ _ _ => True) (fun _ U o U' => ∃ v L, o = .returned v ∧ Q_rm3c Z a1 q2 a3 u1 u2 f_position f_baseOffset f_leaderEpoch f_storedCrc f_attributes f_lastOffsetDelta f_firstTimestamp f_maxTimestamp f_producerId f_producerEpoch f_baseSequence f_recordCount h0 n0 v U'.heap L ∧ FrameEnd U o U' L ({ frames := 0, cells := 0, slots := 0, locals := 0 } : Room).cells ({ frames := 0, cells := 0, slots := 0, locals := 0 } : Room).slots) := by
  refine MetFree.of_bodySF (plainFor_of_name pn_0) hisR ?_
  intro p e s m args below meth c s₁ Bd hml0 hP hK
  obtain ⟨rfl, hZ, hh⟩ := hP
  have hx := Bd.exec
  have hby := Bd.bytes
  have hml : c.maxLocals = 4 := hml0
  have hown : s.vm.findClass "com/example/seqlint/seqlint/kafka/Batch" = some m.cls := findClass_of_methodNamed Bd.named
  have hnm := (name_of_methodNamed Bd.named Bd.method).1
  have X0 : Stand p l e ({ frames := 0, cells := 0, slots := 0, locals := 0 } : Room) s m #[(.ref a1), (.long q2), (.ref a3)] below meth c s₁ [] 0 0 := Stand.of_body Bd
  have e0 : s₁.heap = h0 := by rw [← hh, Bd.state]; rfl
  have N0 := Fr.nil n0
  have K0 := Keep.refl h0 [a1]
  show Goes p e below s (Q_rm3c Z a1 q2 a3 u1 u2 f_position f_baseOffset f_leaderEpoch f_storedCrc f_attributes f_lastOffsetDelta f_firstTimestamp f_maxTimestamp f_producerId f_producerEpoch f_baseSequence f_recordCount h0 n0) ({ frames := 0, cells := 0, slots := 0, locals := 0 } : Room).cells ({ frames := 0, cells := 0, slots := 0, locals := 0 } : Room).slots (s₁.setTop (entryFrame m #[(.ref a1), (.long q2), (.ref a3)] 4))
  refine Goes.pre (fun t kt => castTop (ef_rm3c m a1 q2 a3) kt) ?_
  show Goes p e below s _ _ _ (s₁.setTop (mkF m 0 #[.val (.ref a1), .val (.long q2), .second, .val (.ref a3)] []))
  refine Goes.pre (fun t kt => XS.aloadN X0.here hx rfl (hb hby d3_0) rfl rfl kt) ?_
  show Goes p e below s _ _ _ (s₁.setTop (mkF m 1 #[.val (.ref a1), .val (.long q2), .second, .val (.ref a3)] [(.ref a1)]))
  refine Goes.pre (fun t kt => XS.lloadN X0.here hx rfl (hb hby d3_1) rfl kt) ?_
  show Goes p e below s _ _ _ (s₁.setTop (mkF m 2 #[.val (.ref a1), .val (.long q2), .second, .val (.ref a3)] [(.long q2), (.ref a1)]))
  obtain ⟨T1, h1, X1, e1, W1, st1⟩ := putF X0 hx hZ hown (host := "") (Or.inl (hw _ (List.mem_of_getElem? (i := 17) rfl))) Via.refl e0 pf_F_a1_com_example_seqlint_seqlint_kafka_Batch_computedCrc pf_E_a1 (Or.inl (hw _ (List.mem_of_getElem? (i := 18) rfl))) (hw _ (List.mem_of_getElem? (i := 1) rfl)) (ty := .long) (by decide) rfl rfl (g := (mkF m 2 #[.val (.ref a1), .val (.long q2), .second, .val (.ref a3)] [(.long q2), (.ref a1)])) rfl rfl (hb hby d3_2)
  refine Goes.pre st1 ?_
  have Z1 : n0 ≤ h1.size := Nat.le_trans Z0 (Keep.of_wr W1).1
  have N1 := Fr.snoc X1 N0 pf_G_a1
  have K1 := K0.wr W1 (Or.inl (List.mem_of_getElem? (i := 0) rfl))
  have Fw1 : Fld Z h1 a1 "com/example/seqlint/seqlint/kafka/Batch" "computedCrc" "J" (.long q2) := pf_F_a1_com_example_seqlint_seqlint_kafka_Batch_computedCrc.same W1
  show Goes p e below s _ _ _ (T1.setTop (mkF m 5 #[.val (.ref a1), .val (.long q2), .second, .val (.ref a3)] []))
  refine Goes.pre (fun t kt => XS.aloadN X1.here hx rfl (hb hby d3_5) rfl rfl kt) ?_
  show Goes p e below s _ _ _ (T1.setTop (mkF m 6 #[.val (.ref a1), .val (.long q2), .second, .val (.ref a3)] [(.ref a1)]))
  refine Goes.pre (fun t kt => XS.aloadN X1.here hx rfl (hb hby d3_6) rfl rfl kt) ?_
  show Goes p e below s _ _ _ (T1.setTop (mkF m 7 #[.val (.ref a1), .val (.long q2), .second, .val (.ref a3)] [(.ref a3), (.ref a1)]))
  have fc2 : Fld Z h1 a1 "com/example/seqlint/seqlint/kafka/Batch" "marker" "Lcom/example/seqlint/seqlint/kafka/Batch$Marker;" u2 := (pf_F_a1_com_example_seqlint_seqlint_kafka_Batch_marker.other W1 (Or.inr (slot_ne (Or.inl (hw _ (List.mem_of_getElem? (i := 20) rfl))) (Or.inl (hw _ (List.mem_of_getElem? (i := 18) rfl))) (by decide) (t := (.object "com/example/seqlint/seqlint/kafka/Batch$Marker")) (t' := .long) (by decide) (by decide))))
  have fc3 : Exa Z h1 a1 "com/example/seqlint/seqlint/kafka/Batch" := (pf_E_a1.wr W1)
  obtain ⟨T4, h4, X4, e4, W4, st4⟩ := putF X1 hx hZ hown (host := "") (Or.inl (hw _ (List.mem_of_getElem? (i := 19) rfl))) Via.refl e1 fc2 fc3 (Or.inl (hw _ (List.mem_of_getElem? (i := 20) rfl))) (hw _ (List.mem_of_getElem? (i := 1) rfl)) (ty := (.object "com/example/seqlint/seqlint/kafka/Batch$Marker")) (by decide) rfl rfl (g := (mkF m 7 #[.val (.ref a1), .val (.long q2), .second, .val (.ref a3)] [(.ref a3), (.ref a1)])) rfl rfl (hb hby d3_7)
  refine Goes.pre st4 ?_
  have Z4 : n0 ≤ h4.size := Nat.le_trans Z1 (Keep.of_wr W4).1
  have N4 := Fr.snoc X4 N1 pf_G_a1
  have K4 := K1.wr W4 (Or.inl (List.mem_of_getElem? (i := 0) rfl))
  have Fw4 : Fld Z h4 a1 "com/example/seqlint/seqlint/kafka/Batch" "marker" "Lcom/example/seqlint/seqlint/kafka/Batch$Marker;" (.ref a3) := fc2.same W4
  show Goes p e below s _ _ _ (T4.setTop (mkF m 10 #[.val (.ref a1), .val (.long q2), .second, .val (.ref a3)] []))
  have fc5 : Fld Z h4 a1 "com/example/seqlint/seqlint/kafka/Batch" "computedCrc" "J" (.long q2) := (Fw1.other W4 (Or.inr (slot_ne (Or.inl (hw _ (List.mem_of_getElem? (i := 18) rfl))) (Or.inl (hw _ (List.mem_of_getElem? (i := 20) rfl))) (by decide) (t := .long) (t' := (.object "com/example/seqlint/seqlint/kafka/Batch$Marker")) (by decide) (by decide))))
  have fc6 : Fld Z h4 a1 "com/example/seqlint/seqlint/kafka/Batch" "position" "J" (.long f_position) := ((pf_F_a1_com_example_seqlint_seqlint_kafka_Batch_position.other W1 (Or.inr (slot_ne (Or.inl (hw _ (List.mem_of_getElem? (i := 27) rfl))) (Or.inl (hw _ (List.mem_of_getElem? (i := 18) rfl))) (by decide) (t := .long) (t' := .long) (by decide) (by decide)))).other W4 (Or.inr (slot_ne (Or.inl (hw _ (List.mem_of_getElem? (i := 27) rfl))) (Or.inl (hw _ (List.mem_of_getElem? (i := 20) rfl))) (by decide) (t := .long) (t' := (.object "com/example/seqlint/seqlint/kafka/Batch$Marker")) (by decide) (by decide))))
  have fc7 : Fld Z h4 a1 "com/example/seqlint/seqlint/kafka/Batch" "baseOffset" "J" (.long f_baseOffset) := ((pf_F_a1_com_example_seqlint_seqlint_kafka_Batch_baseOffset.other W1 (Or.inr (slot_ne (Or.inl (hw _ (List.mem_of_getElem? (i := 29) rfl))) (Or.inl (hw _ (List.mem_of_getElem? (i := 18) rfl))) (by decide) (t := .long) (t' := .long) (by decide) (by decide)))).other W4 (Or.inr (slot_ne (Or.inl (hw _ (List.mem_of_getElem? (i := 29) rfl))) (Or.inl (hw _ (List.mem_of_getElem? (i := 20) rfl))) (by decide) (t := .long) (t' := (.object "com/example/seqlint/seqlint/kafka/Batch$Marker")) (by decide) (by decide))))
  have fc8 : Fld Z h4 a1 "com/example/seqlint/seqlint/kafka/Batch" "leaderEpoch" "I" (.int f_leaderEpoch) := ((pf_F_a1_com_example_seqlint_seqlint_kafka_Batch_leaderEpoch.other W1 (Or.inr (slot_ne (Or.inl (hw _ (List.mem_of_getElem? (i := 31) rfl))) (Or.inl (hw _ (List.mem_of_getElem? (i := 18) rfl))) (by decide) (t := .int) (t' := .long) (by decide) (by decide)))).other W4 (Or.inr (slot_ne (Or.inl (hw _ (List.mem_of_getElem? (i := 31) rfl))) (Or.inl (hw _ (List.mem_of_getElem? (i := 20) rfl))) (by decide) (t := .int) (t' := (.object "com/example/seqlint/seqlint/kafka/Batch$Marker")) (by decide) (by decide))))
  have fc9 : Fld Z h4 a1 "com/example/seqlint/seqlint/kafka/Batch" "storedCrc" "J" (.long f_storedCrc) := ((pf_F_a1_com_example_seqlint_seqlint_kafka_Batch_storedCrc.other W1 (Or.inr (slot_ne (Or.inl (hw _ (List.mem_of_getElem? (i := 33) rfl))) (Or.inl (hw _ (List.mem_of_getElem? (i := 18) rfl))) (by decide) (t := .long) (t' := .long) (by decide) (by decide)))).other W4 (Or.inr (slot_ne (Or.inl (hw _ (List.mem_of_getElem? (i := 33) rfl))) (Or.inl (hw _ (List.mem_of_getElem? (i := 20) rfl))) (by decide) (t := .long) (t' := (.object "com/example/seqlint/seqlint/kafka/Batch$Marker")) (by decide) (by decide))))
  have fc10 : Fld Z h4 a1 "com/example/seqlint/seqlint/kafka/Batch" "attributes" "S" (.int f_attributes) := ((pf_F_a1_com_example_seqlint_seqlint_kafka_Batch_attributes.other W1 (Or.inr (slot_ne (Or.inl (hw _ (List.mem_of_getElem? (i := 36) rfl))) (Or.inl (hw _ (List.mem_of_getElem? (i := 18) rfl))) (by decide) (t := .short) (t' := .long) (by decide) (by decide)))).other W4 (Or.inr (slot_ne (Or.inl (hw _ (List.mem_of_getElem? (i := 36) rfl))) (Or.inl (hw _ (List.mem_of_getElem? (i := 20) rfl))) (by decide) (t := .short) (t' := (.object "com/example/seqlint/seqlint/kafka/Batch$Marker")) (by decide) (by decide))))
  have fc11 : Fld Z h4 a1 "com/example/seqlint/seqlint/kafka/Batch" "lastOffsetDelta" "I" (.int f_lastOffsetDelta) := ((pf_F_a1_com_example_seqlint_seqlint_kafka_Batch_lastOffsetDelta.other W1 (Or.inr (slot_ne (Or.inl (hw _ (List.mem_of_getElem? (i := 38) rfl))) (Or.inl (hw _ (List.mem_of_getElem? (i := 18) rfl))) (by decide) (t := .int) (t' := .long) (by decide) (by decide)))).other W4 (Or.inr (slot_ne (Or.inl (hw _ (List.mem_of_getElem? (i := 38) rfl))) (Or.inl (hw _ (List.mem_of_getElem? (i := 20) rfl))) (by decide) (t := .int) (t' := (.object "com/example/seqlint/seqlint/kafka/Batch$Marker")) (by decide) (by decide))))
  have fc12 : Fld Z h4 a1 "com/example/seqlint/seqlint/kafka/Batch" "firstTimestamp" "J" (.long f_firstTimestamp) := ((pf_F_a1_com_example_seqlint_seqlint_kafka_Batch_firstTimestamp.other W1 (Or.inr (slot_ne (Or.inl (hw _ (List.mem_of_getElem? (i := 40) rfl))) (Or.inl (hw _ (List.mem_of_getElem? (i := 18) rfl))) (by decide) (t := .long) (t' := .long) (by decide) (by decide)))).other W4 (Or.inr (slot_ne (Or.inl (hw _ (List.mem_of_getElem? (i := 40) rfl))) (Or.inl (hw _ (List.mem_of_getElem? (i := 20) rfl))) (by decide) (t := .long) (t' := (.object "com/example/seqlint/seqlint/kafka/Batch$Marker")) (by decide) (by decide))))
  have fc13 : Fld Z h4 a1 "com/example/seqlint/seqlint/kafka/Batch" "maxTimestamp" "J" (.long f_maxTimestamp) := ((pf_F_a1_com_example_seqlint_seqlint_kafka_Batch_maxTimestamp.other W1 (Or.inr (slot_ne (Or.inl (hw _ (List.mem_of_getElem? (i := 42) rfl))) (Or.inl (hw _ (List.mem_of_getElem? (i := 18) rfl))) (by decide) (t := .long) (t' := .long) (by decide) (by decide)))).other W4 (Or.inr (slot_ne (Or.inl (hw _ (List.mem_of_getElem? (i := 42) rfl))) (Or.inl (hw _ (List.mem_of_getElem? (i := 20) rfl))) (by decide) (t := .long) (t' := (.object "com/example/seqlint/seqlint/kafka/Batch$Marker")) (by decide) (by decide))))
  have fc14 : Fld Z h4 a1 "com/example/seqlint/seqlint/kafka/Batch" "producerId" "J" (.long f_producerId) := ((pf_F_a1_com_example_seqlint_seqlint_kafka_Batch_producerId.other W1 (Or.inr (slot_ne (Or.inl (hw _ (List.mem_of_getElem? (i := 44) rfl))) (Or.inl (hw _ (List.mem_of_getElem? (i := 18) rfl))) (by decide) (t := .long) (t' := .long) (by decide) (by decide)))).other W4 (Or.inr (slot_ne (Or.inl (hw _ (List.mem_of_getElem? (i := 44) rfl))) (Or.inl (hw _ (List.mem_of_getElem? (i := 20) rfl))) (by decide) (t := .long) (t' := (.object "com/example/seqlint/seqlint/kafka/Batch$Marker")) (by decide) (by decide))))
  have fc15 : Fld Z h4 a1 "com/example/seqlint/seqlint/kafka/Batch" "producerEpoch" "S" (.int f_producerEpoch) := ((pf_F_a1_com_example_seqlint_seqlint_kafka_Batch_producerEpoch.other W1 (Or.inr (slot_ne (Or.inl (hw _ (List.mem_of_getElem? (i := 46) rfl))) (Or.inl (hw _ (List.mem_of_getElem? (i := 18) rfl))) (by decide) (t := .short) (t' := .long) (by decide) (by decide)))).other W4 (Or.inr (slot_ne (Or.inl (hw _ (List.mem_of_getElem? (i := 46) rfl))) (Or.inl (hw _ (List.mem_of_getElem? (i := 20) rfl))) (by decide) (t := .short) (t' := (.object "com/example/seqlint/seqlint/kafka/Batch$Marker")) (by decide) (by decide))))
  have fc16 : Fld Z h4 a1 "com/example/seqlint/seqlint/kafka/Batch" "baseSequence" "I" (.int f_baseSequence) := ((pf_F_a1_com_example_seqlint_seqlint_kafka_Batch_baseSequence.other W1 (Or.inr (slot_ne (Or.inl (hw _ (List.mem_of_getElem? (i := 48) rfl))) (Or.inl (hw _ (List.mem_of_getElem? (i := 18) rfl))) (by decide) (t := .int) (t' := .long) (by decide) (by decide)))).other W4 (Or.inr (slot_ne (Or.inl (hw _ (List.mem_of_getElem? (i := 48) rfl))) (Or.inl (hw _ (List.mem_of_getElem? (i := 20) rfl))) (by decide) (t := .int) (t' := (.object "com/example/seqlint/seqlint/kafka/Batch$Marker")) (by decide) (by decide))))
  have fc17 : Fld Z h4 a1 "com/example/seqlint/seqlint/kafka/Batch" "recordCount" "I" (.int f_recordCount) := ((pf_F_a1_com_example_seqlint_seqlint_kafka_Batch_recordCount.other W1 (Or.inr (slot_ne (Or.inl (hw _ (List.mem_of_getElem? (i := 50) rfl))) (Or.inl (hw _ (List.mem_of_getElem? (i := 18) rfl))) (by decide) (t := .int) (t' := .long) (by decide) (by decide)))).other W4 (Or.inr (slot_ne (Or.inl (hw _ (List.mem_of_getElem? (i := 50) rfl))) (Or.inl (hw _ (List.mem_of_getElem? (i := 20) rfl))) (by decide) (t := .int) (t' := (.object "com/example/seqlint/seqlint/kafka/Batch$Marker")) (by decide) (by decide))))
  refine Goes.ret X4 none (fun _ => rfl) (BodyLoose.notSynchronized Bd) (by decide) (by decide) (fun fs hr => X4.returnOut hx Bd.returns (hb hby d3_10) hr) ?_
  show Q_rm3c Z a1 q2 a3 u1 u2 f_position f_baseOffset f_leaderEpoch f_storedCrc f_attributes f_lastOffsetDelta f_firstTimestamp f_maxTimestamp f_producerId f_producerEpoch f_baseSequence f_recordCount h0 n0 _ T4.heap _
  rw [e4]
  exact ⟨rfl, N4, K4, fc5, Fw4, fc6, fc7, fc8, fc9, fc10, fc11, fc12, fc13, fc14, fc15, fc16, fc17⟩
theorem d5_0 : decode prog_49_method_4_code 0 = .ok (.aload_n 0, 1) := by decide +kernel
theorem d5_1 : decode prog_49_method_4_code 1 = .ok (.getfield 7, 3) := by decide +kernel
theorem d5_4 : decode prog_49_method_4_code 4 = .ok (.lreturn, 1) := by decide +kernel
def Q_rm5 (Z : State) (a1 : Addr) (w : Int64) (h0 : Heap) (n0 : Nat) (v : Option Value) (h : Heap) (L : List Loc) : Prop := v = some (.long w) ∧ Fr n0 L ∧ h = h0
theorem ef_rm5 (m : MethodId) (a1 : Addr) : entryFrame m #[(.ref a1)] 1 = mkF m 0 #[.val (.ref a1)] [] := by first | (simp [entryFrame, mkF, argsToLocals, Value.category]; done) | rfl
set_option maxRecDepth 65536 in
set_option maxHeartbeats 40000000 in
theorem rm5 (l : Launch) (Z : State) (a0 : Array Value) (hw : ∀ d ∈ tables_1, d.before a0 Z = true) (ws : List Jvm.Cond) (a1 : Addr) (w : Int64) (h0 : Heap) (n0 : Nat) (Z0 : n0 ≤ h0.size) (pf_F_a1_com_example_seqlint_seqlint_kafka_Batch_position : Fld Z h0 a1 "com/example/seqlint/seqlint/kafka/Batch" "position" "J" (.long w)) :
    MetFree l (⟨"com/example/seqlint/seqlint/kafka/Batch", "position", "()J"⟩ : MethodName) (head1 (Jvm.Cond.code (⟨"com/example/seqlint/seqlint/kafka/Batch", "position", "()J"⟩ : MethodName) prog_49_method_4_code 1 (some .long) :: ws) ({ frames := 0, cells := 0, slots := 0, locals := 0 } : Room)) (fun a U => a = #[(.ref a1)] ∧ Z.Warmed39 U.vm ∧ U.heap = h0) (fun _ _ _ _ _ => True) (fun _ U o U' => ∃ v L, o = .returned v ∧ Q_rm5 Z a1 w h0 n0 v U'.heap L ∧ FrameEnd U o U' L ({ frames := 0, cells := 0, slots := 0, locals := 0 } : Room).cells ({ frames := 0, cells := 0, slots := 0, locals := 0 } : Room).slots) := by
  refine MetFree.of_bodySF (plainFor_of_name pn_0) hisR ?_
  intro p e s m args below meth c s₁ Bd hml0 hP hK
  obtain ⟨rfl, hZ, hh⟩ := hP
  have hx := Bd.exec
  have hby := Bd.bytes
  have hml : c.maxLocals = 1 := hml0
  have hown : s.vm.findClass "com/example/seqlint/seqlint/kafka/Batch" = some m.cls := findClass_of_methodNamed Bd.named
  have hnm := (name_of_methodNamed Bd.named Bd.method).1
  have X0 : Stand p l e ({ frames := 0, cells := 0, slots := 0, locals := 0 } : Room) s m #[(.ref a1)] below meth c s₁ [] 0 0 := Stand.of_body Bd
  have e0 : s₁.heap = h0 := by rw [← hh, Bd.state]; rfl
  have N0 := Fr.nil n0
  show Goes p e below s (Q_rm5 Z a1 w h0 n0) ({ frames := 0, cells := 0, slots := 0, locals := 0 } : Room).cells ({ frames := 0, cells := 0, slots := 0, locals := 0 } : Room).slots (s₁.setTop (entryFrame m #[(.ref a1)] 1))
  refine Goes.pre (fun t kt => castTop (ef_rm5 m a1) kt) ?_
  show Goes p e below s _ _ _ (s₁.setTop (mkF m 0 #[.val (.ref a1)] []))
  refine Goes.pre (fun t kt => XS.aloadN X0.here hx rfl (hb hby d5_0) rfl rfl kt) ?_
  show Goes p e below s _ _ _ (s₁.setTop (mkF m 1 #[.val (.ref a1)] [(.ref a1)]))
  obtain ⟨T1, X1, e1, st1⟩ := getF X0 hx hZ hown (host := "") (Or.inl (hw _ (List.mem_of_getElem? (i := 26) rfl))) Via.refl e0 pf_F_a1_com_example_seqlint_seqlint_kafka_Batch_position (g := (mkF m 1 #[.val (.ref a1)] [(.ref a1)])) rfl rfl (hb hby d5_1)
  refine Goes.pre st1 ?_
  show Goes p e below s _ _ _ (T1.setTop (mkF m 4 #[.val (.ref a1)] [(.long w)]))
  refine Goes.ret X1 (some (.long w)) (fun h => by rw [Bd.returns] at h; cases h) (BodyLoose.notSynchronized Bd) (by decide) (by decide) (fun fs hr => retOut X1 hx (t := .long) Bd.returns rfl (Or.inr (Or.inl ⟨rfl, rfl, _, rfl⟩)) (hb hby d5_4) hr) ?_
  show Q_rm5 Z a1 w h0 n0 _ T1.heap _
  rw [e1]
  exact ⟨rfl, N0, rfl⟩
theorem d6_0 : decode prog_49_method_5_code 0 = .ok (.aload_n 0, 1) := by decide +kernel
theorem d6_1 : decode prog_49_method_5_code 1 = .ok (.getfield 13, 3) := by decide +kernel
theorem d6_4 : decode prog_49_method_5_code 4 = .ok (.lreturn, 1) := by decide +kernel
def Q_rm6 (Z : State) (a1 : Addr) (w : Int64) (h0 : Heap) (n0 : Nat) (v : Option Value) (h : Heap) (L : List Loc) : Prop := v = some (.long w) ∧ Fr n0 L ∧ h = h0
theorem ef_rm6 (m : MethodId) (a1 : Addr) : entryFrame m #[(.ref a1)] 1 = mkF m 0 #[.val (.ref a1)] [] := by first | (simp [entryFrame, mkF, argsToLocals, Value.category]; done) | rfl
set_option maxRecDepth 65536 in
set_option maxHeartbeats 40000000 in
theorem rm6 (l : Launch) (Z : State) (a0 : Array Value) (hw : ∀ d ∈ tables_1, d.before a0 Z = true) (ws : List Jvm.Cond) (a1 : Addr) (w : Int64) (h0 : Heap) (n0 : Nat) (Z0 : n0 ≤ h0.size) (pf_F_a1_com_example_seqlint_seqlint_kafka_Batch_baseOffset : Fld Z h0 a1 "com/example/seqlint/seqlint/kafka/Batch" "baseOffset" "J" (.long w)) :
    MetFree l (⟨"com/example/seqlint/seqlint/kafka/Batch", "baseOffset", "()J"⟩ : MethodName) (head1 (Jvm.Cond.code (⟨"com/example/seqlint/seqlint/kafka/Batch", "baseOffset", "()J"⟩ : MethodName) prog_49_method_5_code 1 (some .long) :: ws) ({ frames := 0, cells := 0, slots := 0, locals := 0 } : Room)) (fun a U => a = #[(.ref a1)] ∧ Z.Warmed39 U.vm ∧ U.heap = h0) (fun _ _ _ _ _ => True) (fun _ U o U' => ∃ v L, o = .returned v ∧ Q_rm6 Z a1 w h0 n0 v U'.heap L ∧ FrameEnd U o U' L ({ frames := 0, cells := 0, slots := 0, locals := 0 } : Room).cells ({ frames := 0, cells := 0, slots := 0, locals := 0 } : Room).slots) := by
  refine MetFree.of_bodySF (plainFor_of_name pn_0) hisR ?_
  intro p e s m args below meth c s₁ Bd hml0 hP hK
  obtain ⟨rfl, hZ, hh⟩ := hP
  have hx := Bd.exec
  have hby := Bd.bytes
  have hml : c.maxLocals = 1 := hml0
  have hown : s.vm.findClass "com/example/seqlint/seqlint/kafka/Batch" = some m.cls := findClass_of_methodNamed Bd.named
  have hnm := (name_of_methodNamed Bd.named Bd.method).1
  have X0 : Stand p l e ({ frames := 0, cells := 0, slots := 0, locals := 0 } : Room) s m #[(.ref a1)] below meth c s₁ [] 0 0 := Stand.of_body Bd
  have e0 : s₁.heap = h0 := by rw [← hh, Bd.state]; rfl
  have N0 := Fr.nil n0
  show Goes p e below s (Q_rm6 Z a1 w h0 n0) ({ frames := 0, cells := 0, slots := 0, locals := 0 } : Room).cells ({ frames := 0, cells := 0, slots := 0, locals := 0 } : Room).slots (s₁.setTop (entryFrame m #[(.ref a1)] 1))
  refine Goes.pre (fun t kt => castTop (ef_rm6 m a1) kt) ?_
  show Goes p e below s _ _ _ (s₁.setTop (mkF m 0 #[.val (.ref a1)] []))
  refine Goes.pre (fun t kt => XS.aloadN X0.here hx rfl (hb hby d6_0) rfl rfl kt) ?_
  show Goes p e below s _ _ _ (s₁.setTop (mkF m 1 #[.val (.ref a1)] [(.ref a1)]))
  obtain ⟨T1, X1, e1, st1⟩ := getF X0 hx hZ hown (host := "") (Or.inl (hw _ (List.mem_of_getElem? (i := 28) rfl))) Via.refl e0 pf_F_a1_com_example_seqlint_seqlint_kafka_Batch_baseOffset (g := (mkF m 1 #[.val (.ref a1)] [(.ref a1)])) rfl rfl (hb hby d6_1)
  refine Goes.pre st1 ?_
  show Goes p e below s _ _ _ (T1.setTop (mkF m 4 #[.val (.ref a1)] [(.long w)]))
  refine Goes.ret X1 (some (.long w)) (fun h => by rw [Bd.returns] at h; cases h) (BodyLoose.notSynchronized Bd) (by decide) (by decide) (fun fs hr => retOut X1 hx (t := .long) Bd.returns rfl (Or.inr (Or.inl ⟨rfl, rfl, _, rfl⟩)) (hb hby d6_4) hr) ?_
  show Q_rm6 Z a1 w h0 n0 _ T1.heap _
  rw [e1]
  exact ⟨rfl, N0, rfl⟩
theorem d7_0 : decode prog_49_method_6_code 0 = .ok (.aload_n 0, 1) := by decide +kernel
theorem d7_1 : decode prog_49_method_6_code 1 = .ok (.getfield 16, 3) := by decide +kernel
theorem d7_4 : decode prog_49_method_6_code 4 = .ok (.ireturn, 1) := by decide +kernel
def Q_rm7 (Z : State) (a1 : Addr) (w : Int32) (h0 : Heap) (n0 : Nat) (v : Option Value) (h : Heap) (L : List Loc) : Prop := v = some (.int w) ∧ Fr n0 L ∧ h = h0
theorem ef_rm7 (m : MethodId) (a1 : Addr) : entryFrame m #[(.ref a1)] 1 = mkF m 0 #[.val (.ref a1)] [] := by first | (simp [entryFrame, mkF, argsToLocals, Value.category]; done) | rfl
set_option maxRecDepth 65536 in
set_option maxHeartbeats 40000000 in
theorem rm7 (l : Launch) (Z : State) (a0 : Array Value) (hw : ∀ d ∈ tables_1, d.before a0 Z = true) (ws : List Jvm.Cond) (a1 : Addr) (w : Int32) (h0 : Heap) (n0 : Nat) (Z0 : n0 ≤ h0.size) (pf_F_a1_com_example_seqlint_seqlint_kafka_Batch_leaderEpoch : Fld Z h0 a1 "com/example/seqlint/seqlint/kafka/Batch" "leaderEpoch" "I" (.int w)) :
    MetFree l (⟨"com/example/seqlint/seqlint/kafka/Batch", "leaderEpoch", "()I"⟩ : MethodName) (head1 (Jvm.Cond.code (⟨"com/example/seqlint/seqlint/kafka/Batch", "leaderEpoch", "()I"⟩ : MethodName) prog_49_method_6_code 1 (some .int) :: ws) ({ frames := 0, cells := 0, slots := 0, locals := 0 } : Room)) (fun a U => a = #[(.ref a1)] ∧ Z.Warmed39 U.vm ∧ U.heap = h0) (fun _ _ _ _ _ => True) (fun _ U o U' => ∃ v L, o = .returned v ∧ Q_rm7 Z a1 w h0 n0 v U'.heap L ∧ FrameEnd U o U' L ({ frames := 0, cells := 0, slots := 0, locals := 0 } : Room).cells ({ frames := 0, cells := 0, slots := 0, locals := 0 } : Room).slots) := by
  refine MetFree.of_bodySF (plainFor_of_name pn_0) hisR ?_
  intro p e s m args below meth c s₁ Bd hml0 hP hK
  obtain ⟨rfl, hZ, hh⟩ := hP
  have hx := Bd.exec
  have hby := Bd.bytes
  have hml : c.maxLocals = 1 := hml0
  have hown : s.vm.findClass "com/example/seqlint/seqlint/kafka/Batch" = some m.cls := findClass_of_methodNamed Bd.named
  have hnm := (name_of_methodNamed Bd.named Bd.method).1
  have X0 : Stand p l e ({ frames := 0, cells := 0, slots := 0, locals := 0 } : Room) s m #[(.ref a1)] below meth c s₁ [] 0 0 := Stand.of_body Bd
  have e0 : s₁.heap = h0 := by rw [← hh, Bd.state]; rfl
  have N0 := Fr.nil n0
  show Goes p e below s (Q_rm7 Z a1 w h0 n0) ({ frames := 0, cells := 0, slots := 0, locals := 0 } : Room).cells ({ frames := 0, cells := 0, slots := 0, locals := 0 } : Room).slots (s₁.setTop (entryFrame m #[(.ref a1)] 1))
  refine Goes.pre (fun t kt => castTop (ef_rm7 m a1) kt) ?_
  show Goes p e below s _ _ _ (s₁.setTop (mkF m 0 #[.val (.ref a1)] []))
  refine Goes.pre (fun t kt => XS.aloadN X0.here hx rfl (hb hby d7_0) rfl rfl kt) ?_
  show Goes p e below s _ _ _ (s₁.setTop (mkF m 1 #[.val (.ref a1)] [(.ref a1)]))
  obtain ⟨T1, X1, e1, st1⟩ := getF X0 hx hZ hown (host := "") (Or.inl (hw _ (List.mem_of_getElem? (i := 30) rfl))) Via.refl e0 pf_F_a1_com_example_seqlint_seqlint_kafka_Batch_leaderEpoch (g := (mkF m 1 #[.val (.ref a1)] [(.ref a1)])) rfl rfl (hb hby d7_1)
  refine Goes.pre st1 ?_
  show Goes p e below s _ _ _ (T1.setTop (mkF m 4 #[.val (.ref a1)] [(.int w)]))
  refine Goes.ret X1 (some (.int w)) (fun h => by rw [Bd.returns] at h; cases h) (BodyLoose.notSynchronized Bd) (by decide) (by decide) (fun fs hr => retOut X1 hx (t := .int) Bd.returns rfl (Or.inl ⟨rfl, Or.inl rfl, _, rfl⟩) (hb hby d7_4) hr) ?_
  show Q_rm7 Z a1 w h0 n0 _ T1.heap _
  rw [e1]
  exact ⟨rfl, N0, rfl⟩
theorem d8_0 : decode prog_49_method_7_code 0 = .ok (.aload_n 0, 1) := by decide +kernel
theorem d8_1 : decode prog_49_method_7_code 1 = .ok (.getfield 20, 3) := by decide +kernel
theorem d8_4 : decode prog_49_method_7_code 4 = .ok (.lreturn, 1) := by decide +kernel
def Q_rm8 (Z : State) (a1 : Addr) (w : Int64) (h0 : Heap) (n0 : Nat) (v : Option Value) (h : Heap) (L : List Loc) : Prop := v = some (.long w) ∧ Fr n0 L ∧ h = h0
theorem ef_rm8 (m : MethodId) (a1 : Addr) : entryFrame m #[(.ref a1)] 1 = mkF m 0 #[.val (.ref a1)] [] := by first | (simp [entryFrame, mkF, argsToLocals, Value.category]; done) | rfl
set_option maxRecDepth 65536 in
set_option maxHeartbeats 40000000 in
theorem rm8 (l : Launch) (Z : State) (a0 : Array Value) (hw : ∀ d ∈ tables_1, d.before a0 Z = true) (ws : List Jvm.Cond) (a1 : Addr) (w : Int64) (h0 : Heap) (n0 : Nat) (Z0 : n0 ≤ h0.size) (pf_F_a1_com_example_seqlint_seqlint_kafka_Batch_storedCrc : Fld Z h0 a1 "com/example/seqlint/seqlint/kafka/Batch" "storedCrc" "J" (.long w)) :
    MetFree l (⟨"com/example/seqlint/seqlint/kafka/Batch", "storedCrc", "()J"⟩ : MethodName) (head1 (Jvm.Cond.code (⟨"com/example/seqlint/seqlint/kafka/Batch", "storedCrc", "()J"⟩ : MethodName) prog_49_method_7_code 1 (some .long) :: ws) ({ frames := 0, cells := 0, slots := 0, locals := 0 } : Room)) (fun a U => a = #[(.ref a1)] ∧ Z.Warmed39 U.vm ∧ U.heap = h0) (fun _ _ _ _ _ => True) (fun _ U o U' => ∃ v L, o = .returned v ∧ Q_rm8 Z a1 w h0 n0 v U'.heap L ∧ FrameEnd U o U' L ({ frames := 0, cells := 0, slots := 0, locals := 0 } : Room).cells ({ frames := 0, cells := 0, slots := 0, locals := 0 } : Room).slots) := by
  refine MetFree.of_bodySF (plainFor_of_name pn_0) hisR ?_
  intro p e s m args below meth c s₁ Bd hml0 hP hK
  obtain ⟨rfl, hZ, hh⟩ := hP
  have hx := Bd.exec
  have hby := Bd.bytes
  have hml : c.maxLocals = 1 := hml0
  have hown : s.vm.findClass "com/example/seqlint/seqlint/kafka/Batch" = some m.cls := findClass_of_methodNamed Bd.named
  have hnm := (name_of_methodNamed Bd.named Bd.method).1
  have X0 : Stand p l e ({ frames := 0, cells := 0, slots := 0, locals := 0 } : Room) s m #[(.ref a1)] below meth c s₁ [] 0 0 := Stand.of_body Bd
  have e0 : s₁.heap = h0 := by rw [← hh, Bd.state]; rfl
  have N0 := Fr.nil n0
  show Goes p e below s (Q_rm8 Z a1 w h0 n0) ({ frames := 0, cells := 0, slots := 0, locals := 0 } : Room).cells ({ frames := 0, cells := 0, slots := 0, locals := 0 } : Room).slots (s₁.setTop (entryFrame m #[(.ref a1)] 1))
  refine Goes.pre (fun t kt => castTop (ef_rm8 m a1) kt) ?_
  show Goes p e below s _ _ _ (s₁.setTop (mkF m 0 #[.val (.ref a1)] []))
  refine Goes.pre (fun t kt => XS.aloadN X0.here hx rfl (hb hby d8_0) rfl rfl kt) ?_
  show Goes p e below s _ _ _ (s₁.setTop (mkF m 1 #[.val (.ref a1)] [(.ref a1)]))
  obtain ⟨T1, X1, e1, st1⟩ := getF X0 hx hZ hown (host := "") (Or.inl (hw _ (List.mem_of_getElem? (i := 32) rfl))) Via.refl e0 pf_F_a1_com_example_seqlint_seqlint_kafka_Batch_storedCrc (g := (mkF m 1 #[.val (.ref a1)] [(.ref a1)])) rfl rfl (hb hby d8_1)
  refine Goes.pre st1 ?_
  show Goes p e below s _ _ _ (T1.setTop (mkF m 4 #[.val (.ref a1)] [(.long w)]))
  refine Goes.ret X1 (some (.long w)) (fun h => by rw [Bd.returns] at h; cases h) (BodyLoose.notSynchronized Bd) (by decide) (by decide) (fun fs hr => retOut X1 hx (t := .long) Bd.returns rfl (Or.inr (Or.inl ⟨rfl, rfl, _, rfl⟩)) (hb hby d8_4) hr) ?_
  show Q_rm8 Z a1 w h0 n0 _ T1.heap _
  rw [e1]
  exact ⟨rfl, N0, rfl⟩
theorem d9_0 : decode prog_49_method_8_code 0 = .ok (.aload_n 0, 1) := by decide +kernel
theorem d9_1 : decode prog_49_method_8_code 1 = .ok (.getfield 25, 3) := by decide +kernel
theorem d9_4 : decode prog_49_method_8_code 4 = .ok (.lreturn, 1) := by decide +kernel
def Q_rm9 (Z : State) (a1 : Addr) (w : Int64) (h0 : Heap) (n0 : Nat) (v : Option Value) (h : Heap) (L : List Loc) : Prop := v = some (.long w) ∧ Fr n0 L ∧ h = h0
theorem ef_rm9 (m : MethodId) (a1 : Addr) : entryFrame m #[(.ref a1)] 1 = mkF m 0 #[.val (.ref a1)] [] := by first | (simp [entryFrame, mkF, argsToLocals, Value.category]; done) | rfl
set_option maxRecDepth 65536 in
set_option maxHeartbeats 40000000 in
theorem rm9 (l : Launch) (Z : State) (a0 : Array Value) (hw : ∀ d ∈ tables_1, d.before a0 Z = true) (ws : List Jvm.Cond) (a1 : Addr) (w : Int64) (h0 : Heap) (n0 : Nat) (Z0 : n0 ≤ h0.size) (pf_F_a1_com_example_seqlint_seqlint_kafka_Batch_computedCrc : Fld Z h0 a1 "com/example/seqlint/seqlint/kafka/Batch" "computedCrc" "J" (.long w)) :
    MetFree l (⟨"com/example/seqlint/seqlint/kafka/Batch", "computedCrc", "()J"⟩ : MethodName) (head1 (Jvm.Cond.code (⟨"com/example/seqlint/seqlint/kafka/Batch", "computedCrc", "()J"⟩ : MethodName) prog_49_method_8_code 1 (some .long) :: ws) ({ frames := 0, cells := 0, slots := 0, locals := 0 } : Room)) (fun a U => a = #[(.ref a1)] ∧ Z.Warmed39 U.vm ∧ U.heap = h0) (fun _ _ _ _ _ => True) (fun _ U o U' => ∃ v L, o = .returned v ∧ Q_rm9 Z a1 w h0 n0 v U'.heap L ∧ FrameEnd U o U' L ({ frames := 0, cells := 0, slots := 0, locals := 0 } : Room).cells ({ frames := 0, cells := 0, slots := 0, locals := 0 } : Room).slots) := by
  refine MetFree.of_bodySF (plainFor_of_name pn_0) hisR ?_
  intro p e s m args below meth c s₁ Bd hml0 hP hK
  obtain ⟨rfl, hZ, hh⟩ := hP
  have hx := Bd.exec
  have hby := Bd.bytes
  have hml : c.maxLocals = 1 := hml0
  have hown : s.vm.findClass "com/example/seqlint/seqlint/kafka/Batch" = some m.cls := findClass_of_methodNamed Bd.named
  have hnm := (name_of_methodNamed Bd.named Bd.method).1
  have X0 : Stand p l e ({ frames := 0, cells := 0, slots := 0, locals := 0 } : Room) s m #[(.ref a1)] below meth c s₁ [] 0 0 := Stand.of_body Bd
  have e0 : s₁.heap = h0 := by rw [← hh, Bd.state]; rfl
  have N0 := Fr.nil n0
  show Goes p e below s (Q_rm9 Z a1 w h0 n0) ({ frames := 0, cells := 0, slots := 0, locals := 0 } : Room).cells ({ frames := 0, cells := 0, slots := 0, locals := 0 } : Room).slots (s₁.setTop (entryFrame m #[(.ref a1)] 1))
  refine Goes.pre (fun t kt => castTop (ef_rm9 m a1) kt) ?_
  show Goes p e below s _ _ _ (s₁.setTop (mkF m 0 #[.val (.ref a1)] []))
  refine Goes.pre (fun t kt => XS.aloadN X0.here hx rfl (hb hby d9_0) rfl rfl kt) ?_
  show Goes p e below s _ _ _ (s₁.setTop (mkF m 1 #[.val (.ref a1)] [(.ref a1)]))
  obtain ⟨T1, X1, e1, st1⟩ := getF X0 hx hZ hown (host := "") (Or.inl (hw _ (List.mem_of_getElem? (i := 17) rfl))) Via.refl e0 pf_F_a1_com_example_seqlint_seqlint_kafka_Batch_computedCrc (g := (mkF m 1 #[.val (.ref a1)] [(.ref a1)])) rfl rfl (hb hby d9_1)
  refine Goes.pre st1 ?_
  show Goes p e below s _ _ _ (T1.setTop (mkF m 4 #[.val (.ref a1)] [(.long w)]))
  refine Goes.ret X1 (some (.long w)) (fun h => by rw [Bd.returns] at h; cases h) (BodyLoose.notSynchronized Bd) (by decide) (by decide) (fun fs hr => retOut X1 hx (t := .long) Bd.returns rfl (Or.inr (Or.inl ⟨rfl, rfl, _, rfl⟩)) (hb hby d9_4) hr) ?_
  show Q_rm9 Z a1 w h0 n0 _ T1.heap _
  rw [e1]
  exact ⟨rfl, N0, rfl⟩
theorem d11_0 : decode prog_49_method_9_code 0 = .ok (.aload_n 0, 1) := by decide +kernel
theorem d11_1 : decode prog_49_method_9_code 1 = .ok (.getfield 41, 3) := by decide +kernel
theorem d11_4 : decode prog_49_method_9_code 4 = .ok (.lreturn, 1) := by decide +kernel
def Q_rm11 (Z : State) (a1 : Addr) (w : Int64) (h0 : Heap) (n0 : Nat) (v : Option Value) (h : Heap) (L : List Loc) : Prop := v = some (.long w) ∧ Fr n0 L ∧ h = h0
theorem ef_rm11 (m : MethodId) (a1 : Addr) : entryFrame m #[(.ref a1)] 1 = mkF m 0 #[.val (.ref a1)] [] := by first | (simp [entryFrame, mkF, argsToLocals, Value.category]; done) | rfl
set_option maxRecDepth 65536 in
set_option maxHeartbeats 40000000 in
theorem rm11 (l : Launch) (Z : State) (a0 : Array Value) (hw : ∀ d ∈ tables_1, d.before a0 Z = true) (ws : List Jvm.Cond) (a1 : Addr) (w : Int64) (h0 : Heap) (n0 : Nat) (Z0 : n0 ≤ h0.size) (pf_F_a1_com_example_seqlint_seqlint_kafka_Batch_producerId : Fld Z h0 a1 "com/example/seqlint/seqlint/kafka/Batch" "producerId" "J" (.long w)) :
    MetFree l (⟨"com/example/seqlint/seqlint/kafka/Batch", "producerId", "()J"⟩ : MethodName) (head1 (Jvm.Cond.code (⟨"com/example/seqlint/seqlint/kafka/Batch", "producerId", "()J"⟩ : MethodName) prog_49_method_9_code 1 (some .long) :: ws) ({ frames := 0, cells := 0, slots := 0, locals := 0 } : Room)) (fun a U => a = #[(.ref a1)] ∧ Z.Warmed39 U.vm ∧ U.heap = h0) (fun _ _ _ _ _ => True) (fun _ U o U' => ∃ v L, o = .returned v ∧ Q_rm11 Z a1 w h0 n0 v U'.heap L ∧ FrameEnd U o U' L ({ frames := 0, cells := 0, slots := 0, locals := 0 } : Room).cells ({ frames := 0, cells := 0, slots := 0, locals := 0 } : Room).slots) := by
  refine MetFree.of_bodySF (plainFor_of_name pn_0) hisR ?_
  intro p e s m args below meth c s₁ Bd hml0 hP hK
  obtain ⟨rfl, hZ, hh⟩ := hP
  have hx := Bd.exec
  have hby := Bd.bytes
  have hml : c.maxLocals = 1 := hml0
  have hown : s.vm.findClass "com/example/seqlint/seqlint/kafka/Batch" = some m.cls := findClass_of_methodNamed Bd.named
  have hnm := (name_of_methodNamed Bd.named Bd.method).1
  have X0 : Stand p l e ({ frames := 0, cells := 0, slots := 0, locals := 0 } : Room) s m #[(.ref a1)] below meth c s₁ [] 0 0 := Stand.of_body Bd
  have e0 : s₁.heap = h0 := by rw [← hh, Bd.state]; rfl
  have N0 := Fr.nil n0
  show Goes p e below s (Q_rm11 Z a1 w h0 n0) ({ frames := 0, cells := 0, slots := 0, locals := 0 } : Room).cells ({ frames := 0, cells := 0, slots := 0, locals := 0 } : Room).slots (s₁.setTop (entryFrame m #[(.ref a1)] 1))
  refine Goes.pre (fun t kt => castTop (ef_rm11 m a1) kt) ?_
  show Goes p e below s _ _ _ (s₁.setTop (mkF m 0 #[.val (.ref a1)] []))
  refine Goes.pre (fun t kt => XS.aloadN X0.here hx rfl (hb hby d11_0) rfl rfl kt) ?_
  show Goes p e below s _ _ _ (s₁.setTop (mkF m 1 #[.val (.ref a1)] [(.ref a1)]))
  obtain ⟨T1, X1, e1, st1⟩ := getF X0 hx hZ hown (host := "") (Or.inl (hw _ (List.mem_of_getElem? (i := 43) rfl))) Via.refl e0 pf_F_a1_com_example_seqlint_seqlint_kafka_Batch_producerId (g := (mkF m 1 #[.val (.ref a1)] [(.ref a1)])) rfl rfl (hb hby d11_1)
  refine Goes.pre st1 ?_
  show Goes p e below s _ _ _ (T1.setTop (mkF m 4 #[.val (.ref a1)] [(.long w)]))
  refine Goes.ret X1 (some (.long w)) (fun h => by rw [Bd.returns] at h; cases h) (BodyLoose.notSynchronized Bd) (by decide) (by decide) (fun fs hr => retOut X1 hx (t := .long) Bd.returns rfl (Or.inr (Or.inl ⟨rfl, rfl, _, rfl⟩)) (hb hby d11_4) hr) ?_
  show Q_rm11 Z a1 w h0 n0 _ T1.heap _
  rw [e1]
  exact ⟨rfl, N0, rfl⟩
theorem d13_0 : decode prog_49_method_11_code 0 = .ok (.aload_n 0, 1) := by decide +kernel
theorem d13_1 : decode prog_49_method_11_code 1 = .ok (.getfield 47, 3) := by decide +kernel
theorem d13_4 : decode prog_49_method_11_code 4 = .ok (.ireturn, 1) := by decide +kernel
def Q_rm13 (Z : State) (a1 : Addr) (w : Int32) (h0 : Heap) (n0 : Nat) (v : Option Value) (h : Heap) (L : List Loc) : Prop := v = some (.int w) ∧ Fr n0 L ∧ h = h0
theorem ef_rm13 (m : MethodId) (a1 : Addr) : entryFrame m #[(.ref a1)] 1 = mkF m 0 #[.val (.ref a1)] [] := by first | (simp [entryFrame, mkF, argsToLocals, Value.category]; done) | rfl
set_option maxRecDepth 65536 in
set_option maxHeartbeats 40000000 in
theorem rm13 (l : Launch) (Z : State) (a0 : Array Value) (hw : ∀ d ∈ tables_1, d.before a0 Z = true) (ws : List Jvm.Cond) (a1 : Addr) (w : Int32) (h0 : Heap) (n0 : Nat) (Z0 : n0 ≤ h0.size) (pf_F_a1_com_example_seqlint_seqlint_kafka_Batch_baseSequence : Fld Z h0 a1 "com/example/seqlint/seqlint/kafka/Batch" "baseSequence" "I" (.int w)) :
    MetFree l (⟨"com/example/seqlint/seqlint/kafka/Batch", "baseSequence", "()I"⟩ : MethodName) (head1 (Jvm.Cond.code (⟨"com/example/seqlint/seqlint/kafka/Batch", "baseSequence", "()I"⟩ : MethodName) prog_49_method_11_code 1 (some .int) :: ws) ({ frames := 0, cells := 0, slots := 0, locals := 0 } : Room)) (fun a U => a = #[(.ref a1)] ∧ Z.Warmed39 U.vm ∧ U.heap = h0) (fun _ _ _ _ _ => True) (fun _ U o U' => ∃ v L, o = .returned v ∧ Q_rm13 Z a1 w h0 n0 v U'.heap L ∧ FrameEnd U o U' L ({ frames := 0, cells := 0, slots := 0, locals := 0 } : Room).cells ({ frames := 0, cells := 0, slots := 0, locals := 0 } : Room).slots) := by
  refine MetFree.of_bodySF (plainFor_of_name pn_0) hisR ?_
  intro p e s m args below meth c s₁ Bd hml0 hP hK
  obtain ⟨rfl, hZ, hh⟩ := hP
  have hx := Bd.exec
  have hby := Bd.bytes
  have hml : c.maxLocals = 1 := hml0
  have hown : s.vm.findClass "com/example/seqlint/seqlint/kafka/Batch" = some m.cls := findClass_of_methodNamed Bd.named
  have hnm := (name_of_methodNamed Bd.named Bd.method).1
  have X0 : Stand p l e ({ frames := 0, cells := 0, slots := 0, locals := 0 } : Room) s m #[(.ref a1)] below meth c s₁ [] 0 0 := Stand.of_body Bd
  have e0 : s₁.heap = h0 := by rw [← hh, Bd.state]; rfl
  have N0 := Fr.nil n0
  show Goes p e below s (Q_rm13 Z a1 w h0 n0) ({ frames := 0, cells := 0, slots := 0, locals := 0 } : Room).cells ({ frames := 0, cells := 0, slots := 0, locals := 0 } : Room).slots (s₁.setTop (entryFrame m #[(.ref a1)] 1))
  refine Goes.pre (fun t kt => castTop (ef_rm13 m a1) kt) ?_
  show Goes p e below s _ _ _ (s₁.setTop (mkF m 0 #[.val (.ref a1)] []))
  refine Goes.pre (fun t kt => XS.aloadN X0.here hx rfl (hb hby d13_0) rfl rfl kt) ?_
  show Goes p e below s _ _ _ (s₁.setTop (mkF m 1 #[.val (.ref a1)] [(.ref a1)]))
  obtain ⟨T1, X1, e1, st1⟩ := getF X0 hx hZ hown (host := "") (Or.inl (hw _ (List.mem_of_getElem? (i := 47) rfl))) Via.refl e0 pf_F_a1_com_example_seqlint_seqlint_kafka_Batch_baseSequence (g := (mkF m 1 #[.val (.ref a1)] [(.ref a1)])) rfl rfl (hb hby d13_1)
  refine Goes.pre st1 ?_
  show Goes p e below s _ _ _ (T1.setTop (mkF m 4 #[.val (.ref a1)] [(.int w)]))
  refine Goes.ret X1 (some (.int w)) (fun h => by rw [Bd.returns] at h; cases h) (BodyLoose.notSynchronized Bd) (by decide) (by decide) (fun fs hr => retOut X1 hx (t := .int) Bd.returns rfl (Or.inl ⟨rfl, Or.inl rfl, _, rfl⟩) (hb hby d13_4) hr) ?_
  show Q_rm13 Z a1 w h0 n0 _ T1.heap _
  rw [e1]
  exact ⟨rfl, N0, rfl⟩
theorem d14_0 : decode prog_49_method_12_code 0 = .ok (.aload_n 0, 1) := by decide +kernel
theorem d14_1 : decode prog_49_method_12_code 1 = .ok (.getfield 50, 3) := by decide +kernel
theorem d14_4 : decode prog_49_method_12_code 4 = .ok (.ireturn, 1) := by decide +kernel
def Q_rm14 (Z : State) (a1 : Addr) (w : Int32) (h0 : Heap) (n0 : Nat) (v : Option Value) (h : Heap) (L : List Loc) : Prop := v = some (.int w) ∧ Fr n0 L ∧ h = h0
theorem ef_rm14 (m : MethodId) (a1 : Addr) : entryFrame m #[(.ref a1)] 1 = mkF m 0 #[.val (.ref a1)] [] := by first | (simp [entryFrame, mkF, argsToLocals, Value.category]; done) | rfl
set_option maxRecDepth 65536 in
set_option maxHeartbeats 40000000 in
theorem rm14 (l : Launch) (Z : State) (a0 : Array Value) (hw : ∀ d ∈ tables_1, d.before a0 Z = true) (ws : List Jvm.Cond) (a1 : Addr) (w : Int32) (h0 : Heap) (n0 : Nat) (Z0 : n0 ≤ h0.size) (pf_F_a1_com_example_seqlint_seqlint_kafka_Batch_recordCount : Fld Z h0 a1 "com/example/seqlint/seqlint/kafka/Batch" "recordCount" "I" (.int w)) :
    MetFree l (⟨"com/example/seqlint/seqlint/kafka/Batch", "recordCount", "()I"⟩ : MethodName) (head1 (Jvm.Cond.code (⟨"com/example/seqlint/seqlint/kafka/Batch", "recordCount", "()I"⟩ : MethodName) prog_49_method_12_code 1 (some .int) :: ws) ({ frames := 0, cells := 0, slots := 0, locals := 0 } : Room)) (fun a U => a = #[(.ref a1)] ∧ Z.Warmed39 U.vm ∧ U.heap = h0) (fun _ _ _ _ _ => True) (fun _ U o U' => ∃ v L, o = .returned v ∧ Q_rm14 Z a1 w h0 n0 v U'.heap L ∧ FrameEnd U o U' L ({ frames := 0, cells := 0, slots := 0, locals := 0 } : Room).cells ({ frames := 0, cells := 0, slots := 0, locals := 0 } : Room).slots) := by
  refine MetFree.of_bodySF (plainFor_of_name pn_0) hisR ?_
  intro p e s m args below meth c s₁ Bd hml0 hP hK
  obtain ⟨rfl, hZ, hh⟩ := hP
  have hx := Bd.exec
  have hby := Bd.bytes
  have hml : c.maxLocals = 1 := hml0
  have hown : s.vm.findClass "com/example/seqlint/seqlint/kafka/Batch" = some m.cls := findClass_of_methodNamed Bd.named
  have hnm := (name_of_methodNamed Bd.named Bd.method).1
  have X0 : Stand p l e ({ frames := 0, cells := 0, slots := 0, locals := 0 } : Room) s m #[(.ref a1)] below meth c s₁ [] 0 0 := Stand.of_body Bd
  have e0 : s₁.heap = h0 := by rw [← hh, Bd.state]; rfl
  have N0 := Fr.nil n0
  show Goes p e below s (Q_rm14 Z a1 w h0 n0) ({ frames := 0, cells := 0, slots := 0, locals := 0 } : Room).cells ({ frames := 0, cells := 0, slots := 0, locals := 0 } : Room).slots (s₁.setTop (entryFrame m #[(.ref a1)] 1))
  refine Goes.pre (fun t kt => castTop (ef_rm14 m a1) kt) ?_
  show Goes p e below s _ _ _ (s₁.setTop (mkF m 0 #[.val (.ref a1)] []))
  refine Goes.pre (fun t kt => XS.aloadN X0.here hx rfl (hb hby d14_0) rfl rfl kt) ?_
  show Goes p e below s _ _ _ (s₁.setTop (mkF m 1 #[.val (.ref a1)] [(.ref a1)]))
  obtain ⟨T1, X1, e1, st1⟩ := getF X0 hx hZ hown (host := "") (Or.inl (hw _ (List.mem_of_getElem? (i := 49) rfl))) Via.refl e0 pf_F_a1_com_example_seqlint_seqlint_kafka_Batch_recordCount (g := (mkF m 1 #[.val (.ref a1)] [(.ref a1)])) rfl rfl (hb hby d14_1)
  refine Goes.pre st1 ?_
  show Goes p e below s _ _ _ (T1.setTop (mkF m 4 #[.val (.ref a1)] [(.int w)]))
  refine Goes.ret X1 (some (.int w)) (fun h => by rw [Bd.returns] at h; cases h) (BodyLoose.notSynchronized Bd) (by decide) (by decide) (fun fs hr => retOut X1 hx (t := .int) Bd.returns rfl (Or.inl ⟨rfl, Or.inl rfl, _, rfl⟩) (hb hby d14_4) hr) ?_
  show Q_rm14 Z a1 w h0 n0 _ T1.heap _
  rw [e1]
  exact ⟨rfl, N0, rfl⟩
theorem d12_0 : decode prog_49_method_10_code 0 = .ok (.aload_n 0, 1) := by decide +kernel
theorem d12_1 : decode prog_49_method_10_code 1 = .ok (.getfield 44, 3) := by decide +kernel
theorem d12_4 : decode prog_49_method_10_code 4 = .ok (.ireturn, 1) := by decide +kernel
def Q_rm12 (Z : State) (a1 : Addr) (w : Int32) (h0 : Heap) (n0 : Nat) (v : Option Value) (h : Heap) (L : List Loc) : Prop := v = some (.int (w.toInt16.toInt32)) ∧ Fr n0 L ∧ h = h0
theorem ef_rm12 (m : MethodId) (a1 : Addr) : entryFrame m #[(.ref a1)] 1 = mkF m 0 #[.val (.ref a1)] [] := by first | (simp [entryFrame, mkF, argsToLocals, Value.category]; done) | rfl
set_option maxRecDepth 65536 in
set_option maxHeartbeats 40000000 in
theorem rm12 (l : Launch) (Z : State) (a0 : Array Value) (hw : ∀ d ∈ tables_1, d.before a0 Z = true) (ws : List Jvm.Cond) (a1 : Addr) (w : Int32) (h0 : Heap) (n0 : Nat) (Z0 : n0 ≤ h0.size) (pf_F_a1_com_example_seqlint_seqlint_kafka_Batch_producerEpoch : Fld Z h0 a1 "com/example/seqlint/seqlint/kafka/Batch" "producerEpoch" "S" (.int w)) :
    MetFree l (⟨"com/example/seqlint/seqlint/kafka/Batch", "producerEpoch", "()S"⟩ : MethodName) (head1 (Jvm.Cond.code (⟨"com/example/seqlint/seqlint/kafka/Batch", "producerEpoch", "()S"⟩ : MethodName) prog_49_method_10_code 1 (some .short) :: ws) ({ frames := 0, cells := 0, slots := 0, locals := 0 } : Room)) (fun a U => a = #[(.ref a1)] ∧ Z.Warmed39 U.vm ∧ U.heap = h0) (fun _ _ _ _ _ => True) (fun _ U o U' => ∃ v L, o = .returned v ∧ Q_rm12 Z a1 w h0 n0 v U'.heap L ∧ FrameEnd U o U' L ({ frames := 0, cells := 0, slots := 0, locals := 0 } : Room).cells ({ frames := 0, cells := 0, slots := 0, locals := 0 } : Room).slots) := by
  refine MetFree.of_bodySF (plainFor_of_name pn_0) hisR ?_
  intro p e s m args below meth c s₁ Bd hml0 hP hK
  obtain ⟨rfl, hZ, hh⟩ := hP
  have hx := Bd.exec
  have hby := Bd.bytes
  have hml : c.maxLocals = 1 := hml0
  have hown : s.vm.findClass "com/example/seqlint/seqlint/kafka/Batch" = some m.cls := findClass_of_methodNamed Bd.named
  have hnm := (name_of_methodNamed Bd.named Bd.method).1
  have X0 : Stand p l e ({ frames := 0, cells := 0, slots := 0, locals := 0 } : Room) s m #[(.ref a1)] below meth c s₁ [] 0 0 := Stand.of_body Bd
  have e0 : s₁.heap = h0 := by rw [← hh, Bd.state]; rfl
  have N0 := Fr.nil n0
  show Goes p e below s (Q_rm12 Z a1 w h0 n0) ({ frames := 0, cells := 0, slots := 0, locals := 0 } : Room).cells ({ frames := 0, cells := 0, slots := 0, locals := 0 } : Room).slots (s₁.setTop (entryFrame m #[(.ref a1)] 1))
  refine Goes.pre (fun t kt => castTop (ef_rm12 m a1) kt) ?_
  show Goes p e below s _ _ _ (s₁.setTop (mkF m 0 #[.val (.ref a1)] []))
  refine Goes.pre (fun t kt => XS.aloadN X0.here hx rfl (hb hby d12_0) rfl rfl kt) ?_
  show Goes p e below s _ _ _ (s₁.setTop (mkF m 1 #[.val (.ref a1)] [(.ref a1)]))
  obtain ⟨T1, X1, e1, st1⟩ := getF X0 hx hZ hown (host := "") (Or.inl (hw _ (List.mem_of_getElem? (i := 45) rfl))) Via.refl e0 pf_F_a1_com_example_seqlint_seqlint_kafka_Batch_producerEpoch (g := (mkF m 1 #[.val (.ref a1)] [(.ref a1)])) rfl rfl (hb hby d12_1)
  refine Goes.pre st1 ?_
  show Goes p e below s _ _ _ (T1.setTop (mkF m 4 #[.val (.ref a1)] [(.int w)]))
  refine Goes.ret X1 (some (.int (nar .short w))) (fun h => by rw [Bd.returns] at h; cases h) (BodyLoose.notSynchronized Bd) (by decide) (by decide) (fun fs hr => retN X1 hx (t := .short) Bd.returns (by simp) (hb hby d12_4) hr) ?_
  show Q_rm12 Z a1 w h0 n0 _ T1.heap _
  rw [e1]
  exact ⟨rfl, N0, rfl⟩
theorem d10_0 : decode prog_49_method_13_code 0 = .ok (.aload_n 0, 1) := by decide +kernel
theorem d10_1 : decode prog_49_method_13_code 1 = .ok (.getfield 53, 3) := by decide +kernel
theorem d10_4 : decode prog_49_method_13_code 4 = .ok (.areturn, 1) := by decide +kernel
def Q_rm10 (Z : State) (a1 : Addr) (h0 : Heap) (n0 : Nat) (v : Option Value) (h : Heap) (L : List Loc) : Prop := v = some .null ∧ Fr n0 L ∧ h = h0
theorem ef_rm10 (m : MethodId) (a1 : Addr) : entryFrame m #[(.ref a1)] 1 = mkF m 0 #[.val (.ref a1)] [] := by first | (simp [entryFrame, mkF, argsToLocals, Value.category]; done) | rfl
set_option maxRecDepth 65536 in
set_option maxHeartbeats 40000000 in
theorem rm10 (l : Launch) (Z : State) (a0 : Array Value) (hw : ∀ d ∈ tables_1, d.before a0 Z = true) (ws : List Jvm.Cond) (a1 : Addr) (h0 : Heap) (n0 : Nat) (Z0 : n0 ≤ h0.size) (pf_F_a1_com_example_seqlint_seqlint_kafka_Batch_marker : Fld Z h0 a1 "com/example/seqlint/seqlint/kafka/Batch" "marker" "Lcom/example/seqlint/seqlint/kafka/Batch$Marker;" .null) :
    MetFree l (⟨"com/example/seqlint/seqlint/kafka/Batch", "marker", "()Lcom/example/seqlint/seqlint/kafka/Batch$Marker;"⟩ : MethodName) (head1 (Jvm.Cond.code (⟨"com/example/seqlint/seqlint/kafka/Batch", "marker", "()Lcom/example/seqlint/seqlint/kafka/Batch$Marker;"⟩ : MethodName) prog_49_method_13_code 1 (some (.object "com/example/seqlint/seqlint/kafka/Batch$Marker")) :: ws) ({ frames := 0, cells := 0, slots := 0, locals := 0 } : Room)) (fun a U => a = #[(.ref a1)] ∧ Z.Warmed39 U.vm ∧ U.heap = h0) (fun _ _ _ _ _ => True) (fun _ U o U' => ∃ v L, o = .returned v ∧ Q_rm10 Z a1 h0 n0 v U'.heap L ∧ FrameEnd U o U' L ({ frames := 0, cells := 0, slots := 0, locals := 0 } : Room).cells ({ frames := 0, cells := 0, slots := 0, locals := 0 } : Room).slots) := by
  refine MetFree.of_bodySF (plainFor_of_name pn_0) hisR ?_
  intro p e s m args below meth c s₁ Bd hml0 hP hK
  obtain ⟨rfl, hZ, hh⟩ := hP
  have hx := Bd.exec
  have hby := Bd.bytes
  have hml : c.maxLocals = 1 := hml0
  have hown : s.vm.findClass "com/example/seqlint/seqlint/kafka/Batch" = some m.cls := findClass_of_methodNamed Bd.named
  have hnm := (name_of_methodNamed Bd.named Bd.method).1
  have X0 : Stand p l e ({ frames := 0, cells := 0, slots := 0, locals := 0 } : Room) s m #[(.ref a1)] below meth c s₁ [] 0 0 := Stand.of_body Bd
  have e0 : s₁.heap = h0 := by rw [← hh, Bd.state]; rfl
  have N0 := Fr.nil n0
  show Goes p e below s (Q_rm10 Z a1 h0 n0) ({ frames := 0, cells := 0, slots := 0, locals := 0 } : Room).cells ({ frames := 0, cells := 0, slots := 0, locals := 0 } : Room).slots (s₁.setTop (entryFrame m #[(.ref a1)] 1))
  refine Goes.pre (fun t kt => castTop (ef_rm10 m a1) kt) ?_
  show Goes p e below s _ _ _ (s₁.setTop (mkF m 0 #[.val (.ref a1)] []))
  refine Goes.pre (fun t kt => XS.aloadN X0.here hx rfl (hb hby d10_0) rfl rfl kt) ?_
  show Goes p e below s _ _ _ (s₁.setTop (mkF m 1 #[.val (.ref a1)] [(.ref a1)]))
  obtain ⟨T1, X1, e1, st1⟩ := getF X0 hx hZ hown (host := "") (Or.inl (hw _ (List.mem_of_getElem? (i := 19) rfl))) Via.refl e0 pf_F_a1_com_example_seqlint_seqlint_kafka_Batch_marker (g := (mkF m 1 #[.val (.ref a1)] [(.ref a1)])) rfl rfl (hb hby d10_1)
  refine Goes.pre st1 ?_
  show Goes p e below s _ _ _ (T1.setTop (mkF m 4 #[.val (.ref a1)] [.null]))
  refine Goes.ret X1 (some .null) (fun h => by rw [Bd.returns] at h; cases h) (BodyLoose.notSynchronized Bd) (by decide) (by decide) (fun fs hr => retOut X1 hx (t := (.object "com/example/seqlint/seqlint/kafka/Batch$Marker")) Bd.returns rfl (Or.inr (Or.inr (Or.inr (Or.inr ⟨rfl, rfl, rfl⟩)))) (hb hby d10_4) hr) ?_
  show Q_rm10 Z a1 h0 n0 _ T1.heap _
  rw [e1]
  exact ⟨rfl, N0, rfl⟩
theorem d16_0 : decode prog_49_method_18_code 0 = .ok (.lload_n 0, 1) := by decide +kernel
theorem d16_1 : decode prog_49_method_18_code 1 = .ok (.iload_n 2, 1) := by decide +kernel
theorem d16_2 : decode prog_49_method_18_code 2 = .ok (.i2l, 1) := by decide +kernel
theorem d16_3 : decode prog_49_method_18_code 3 = .ok (.ladd, 1) := by decide +kernel
theorem d16_4 : decode prog_49_method_18_code 4 = .ok (.lstore_n 3, 1) := by decide +kernel
theorem d16_5 : decode prog_49_method_18_code 5 = .ok (.lload_n 0, 1) := by decide +kernel
theorem d16_6 : decode prog_49_method_18_code 6 = .ok (.lload_n 3, 1) := by decide +kernel
theorem d16_7 : decode prog_49_method_18_code 7 = .ok (.lxor, 1) := by decide +kernel
theorem d16_8 : decode prog_49_method_18_code 8 = .ok (.iload_n 2, 1) := by decide +kernel
theorem d16_9 : decode prog_49_method_18_code 9 = .ok (.i2l, 1) := by decide +kernel
theorem d16_10 : decode prog_49_method_18_code 10 = .ok (.lload_n 3, 1) := by decide +kernel
theorem d16_11 : decode prog_49_method_18_code 11 = .ok (.lxor, 1) := by decide +kernel
theorem d16_12 : decode prog_49_method_18_code 12 = .ok (.land, 1) := by decide +kernel
theorem d16_13 : decode prog_49_method_18_code 13 = .ok (.lconst 0, 1) := by decide +kernel
theorem d16_14 : decode prog_49_method_18_code 14 = .ok (.lcmp, 1) := by decide +kernel
theorem d16_15 : decode prog_49_method_18_code 15 = .ok (.ifCond .ge 17, 3) := by decide +kernel
theorem d16_18 : decode prog_49_method_18_code 18 = .ok (.iload_n 2, 1) := by decide +kernel
theorem d16_19 : decode prog_49_method_18_code 19 = .ok (.ifCond .ge 9, 3) := by decide +kernel
theorem d16_22 : decode prog_49_method_18_code 22 = .ok (.ldc2_w 63, 3) := by decide +kernel
theorem d16_25 : decode prog_49_method_18_code 25 = .ok (.goto 6, 3) := by decide +kernel
theorem d16_31 : decode prog_49_method_18_code 31 = .ok (.lreturn, 1) := by decide +kernel
theorem d16_28 : decode prog_49_method_18_code 28 = .ok (.ldc2_w 65, 3) := by decide +kernel
theorem d16_32 : decode prog_49_method_18_code 32 = .ok (.lload_n 3, 1) := by decide +kernel
theorem d16_33 : decode prog_49_method_18_code 33 = .ok (.lreturn, 1) := by decide +kernel
def Q_rm16 (Z : State) (q1 : Int64) (p2 : Int32) (h0 : Heap) (n0 : Nat) (v : Option Value) (h : Heap) (L : List Loc) : Prop := v = some (.long (own_lo q1 p2)) ∧ Fr n0 L ∧ h = h0
theorem ef_rm16 (m : MethodId) (q1 : Int64) (p2 : Int32) : entryFrame m #[(.long q1), (.int p2)] 5 = mkF m 0 #[.val (.long q1), .second, .val (.int p2), .unset, .unset] [] := by first | (simp [entryFrame, mkF, argsToLocals, Value.category]; done) | rfl
set_option maxRecDepth 65536 in
set_option maxHeartbeats 40000000 in
theorem rm16 (l : Launch) (Z : State) (a0 : Array Value) (hw : ∀ d ∈ tables_1, d.before a0 Z = true) (ws : List Jvm.Cond) (q1 : Int64) (p2 : Int32) (h0 : Heap) (n0 : Nat) (Z0 : n0 ≤ h0.size) :
    MetFree l (⟨"com/example/seqlint/seqlint/kafka/Batch", "lastOffset", "(JI)J"⟩ : MethodName) (head1 (Jvm.Cond.code (⟨"com/example/seqlint/seqlint/kafka/Batch", "lastOffset", "(JI)J"⟩ : MethodName) prog_49_method_18_code 5 (some .long) :: ws) ({ frames := 0, cells := 0, slots := 0, locals := 0 } : Room)) (fun a U => a = #[(.long q1), (.int p2)] ∧ Z.Warmed39 U.vm ∧ U.heap = h0) (fun _ _ _ _ _ => True) (fun _ U o U' => ∃ v L, o = .returned v ∧ Q_rm16 Z q1 p2 h0 n0 v U'.heap L ∧ FrameEnd U o U' L ({ frames := 0, cells := 0, slots := 0, locals := 0 } : Room).cells ({ frames := 0, cells := 0, slots := 0, locals := 0 } : Room).slots) := by
  refine MetFree.of_bodySF (plainFor_of_name pn_0) hisR ?_
  intro p e s m args below meth c s₁ Bd hml0 hP hK
  obtain ⟨rfl, hZ, hh⟩ := hP
  have hx := Bd.exec
  have hby := Bd.bytes
  have hml : c.maxLocals = 5 := hml0
  have hown : s.vm.findClass "com/example/seqlint/seqlint/kafka/Batch" = some m.cls := findClass_of_methodNamed Bd.named
  have hnm := (name_of_methodNamed Bd.named Bd.method).1
  have X0 : Stand p l e ({ frames := 0, cells := 0, slots := 0, locals := 0 } : Room) s m #[(.long q1), (.int p2)] below meth c s₁ [] 0 0 := Stand.of_body Bd
  have e0 : s₁.heap = h0 := by rw [← hh, Bd.state]; rfl
  have N0 := Fr.nil n0
  show Goes p e below s (Q_rm16 Z q1 p2 h0 n0) ({ frames := 0, cells := 0, slots := 0, locals := 0 } : Room).cells ({ frames := 0, cells := 0, slots := 0, locals := 0 } : Room).slots (s₁.setTop (entryFrame m #[(.long q1), (.int p2)] 5))
  refine Goes.pre (fun t kt => castTop (ef_rm16 m q1 p2) kt) ?_
  show Goes p e below s _ _ _ (s₁.setTop (mkF m 0 #[.val (.long q1), .second, .val (.int p2), .unset, .unset] []))
  refine Goes.pre (fun t kt => XS.lloadN X0.here hx rfl (hb hby d16_0) rfl kt) ?_
  show Goes p e below s _ _ _ (s₁.setTop (mkF m 1 #[.val (.long q1), .second, .val (.int p2), .unset, .unset] [(.long q1)]))
  refine Goes.pre (fun t kt => XS.iloadN X0.here hx rfl (hb hby d16_1) rfl kt) ?_
  show Goes p e below s _ _ _ (s₁.setTop (mkF m 2 #[.val (.long q1), .second, .val (.int p2), .unset, .unset] [(.int p2), (.long q1)]))
  refine Goes.pre (fun t kt => XS.i2l X0.here hx rfl (hb hby d16_2) rfl kt) ?_
  show Goes p e below s _ _ _ (s₁.setTop (mkF m 3 #[.val (.long q1), .second, .val (.int p2), .unset, .unset] [(.long (p2.toInt64)), (.long q1)]))
  refine Goes.pre (fun t kt => XS.ladd X0.here hx rfl (hb hby d16_3) rfl kt) ?_
  show Goes p e below s _ _ _ (s₁.setTop (mkF m 4 #[.val (.long q1), .second, .val (.int p2), .unset, .unset] [(.long (q1 + (p2.toInt64)))]))
  refine Goes.pre (fun t kt => XS.lstoreN X0.here hx rfl (hb hby d16_4) rfl (l' := #[.val (.long q1), .second, .val (.int p2), .val (.long (q1 + (p2.toInt64))), .second]) rfl kt) ?_
  show Goes p e below s _ _ _ (s₁.setTop (mkF m 5 #[.val (.long q1), .second, .val (.int p2), .val (.long (q1 + (p2.toInt64))), .second] []))
  refine Goes.pre (fun t kt => XS.lloadN X0.here hx rfl (hb hby d16_5) rfl kt) ?_
  show Goes p e below s _ _ _ (s₁.setTop (mkF m 6 #[.val (.long q1), .second, .val (.int p2), .val (.long (q1 + (p2.toInt64))), .second] [(.long q1)]))
  refine Goes.pre (fun t kt => XS.lloadN X0.here hx rfl (hb hby d16_6) rfl kt) ?_
  show Goes p e below s _ _ _ (s₁.setTop (mkF m 7 #[.val (.long q1), .second, .val (.int p2), .val (.long (q1 + (p2.toInt64))), .second] [(.long (q1 + (p2.toInt64))), (.long q1)]))
  refine Goes.pre (fun t kt => XS.lxor X0.here hx rfl (hb hby d16_7) rfl kt) ?_
  show Goes p e below s _ _ _ (s₁.setTop (mkF m 8 #[.val (.long q1), .second, .val (.int p2), .val (.long (q1 + (p2.toInt64))), .second] [(.long (q1 ^^^ (q1 + (p2.toInt64))))]))
  refine Goes.pre (fun t kt => XS.iloadN X0.here hx rfl (hb hby d16_8) rfl kt) ?_
  show Goes p e below s _ _ _ (s₁.setTop (mkF m 9 #[.val (.long q1), .second, .val (.int p2), .val (.long (q1 + (p2.toInt64))), .second] [(.int p2), (.long (q1 ^^^ (q1 + (p2.toInt64))))]))
  refine Goes.pre (fun t kt => XS.i2l X0.here hx rfl (hb hby d16_9) rfl kt) ?_
  show Goes p e below s _ _ _ (s₁.setTop (mkF m 10 #[.val (.long q1), .second, .val (.int p2), .val (.long (q1 + (p2.toInt64))), .second] [(.long (p2.toInt64)), (.long (q1 ^^^ (q1 + (p2.toInt64))))]))
  refine Goes.pre (fun t kt => XS.lloadN X0.here hx rfl (hb hby d16_10) rfl kt) ?_
  show Goes p e below s _ _ _ (s₁.setTop (mkF m 11 #[.val (.long q1), .second, .val (.int p2), .val (.long (q1 + (p2.toInt64))), .second] [(.long (q1 + (p2.toInt64))), (.long (p2.toInt64)), (.long (q1 ^^^ (q1 + (p2.toInt64))))]))
  refine Goes.pre (fun t kt => XS.lxor X0.here hx rfl (hb hby d16_11) rfl kt) ?_
  show Goes p e below s _ _ _ (s₁.setTop (mkF m 12 #[.val (.long q1), .second, .val (.int p2), .val (.long (q1 + (p2.toInt64))), .second] [(.long ((p2.toInt64) ^^^ (q1 + (p2.toInt64)))), (.long (q1 ^^^ (q1 + (p2.toInt64))))]))
  refine Goes.pre (fun t kt => XS.land X0.here hx rfl (hb hby d16_12) rfl kt) ?_
  show Goes p e below s _ _ _ (s₁.setTop (mkF m 13 #[.val (.long q1), .second, .val (.int p2), .val (.long (q1 + (p2.toInt64))), .second] [(.long ((q1 ^^^ (q1 + (p2.toInt64))) &&& ((p2.toInt64) ^^^ (q1 + (p2.toInt64)))))]))
  refine Goes.pre (fun t kt => XS.lconst X0.here hx rfl (hb hby d16_13) kt) ?_
  show Goes p e below s _ _ _ (s₁.setTop (mkF m 14 #[.val (.long q1), .second, .val (.int p2), .val (.long (q1 + (p2.toInt64))), .second] [(.long (0 : Int64)), (.long ((q1 ^^^ (q1 + (p2.toInt64))) &&& ((p2.toInt64) ^^^ (q1 + (p2.toInt64)))))]))
  refine Goes.pre (fun t kt => XS.lcmp X0.here hx rfl (hb hby d16_14) rfl kt) ?_
  show Goes p e below s _ _ _ (s₁.setTop (mkF m 15 #[.val (.long q1), .second, .val (.int p2), .val (.long (q1 + (p2.toInt64))), .second] [(.int (lcmpW ((q1 ^^^ (q1 + (p2.toInt64))) &&& ((p2.toInt64) ^^^ (q1 + (p2.toInt64)))) (0 : Int64)))]))
  by_cases hc15 : ((q1 ^^^ (q1 + (p2.toInt64))) &&& ((p2.toInt64) ^^^ (q1 + (p2.toInt64)))) < (0 : Int64)
  · refine Goes.pre (fun t kt => XS.ifNo X0.here hx rfl (hb hby d16_15) rfl (Jvm.Free.XT.i0_ge_f ((lw_lt _ _).mpr hc15)) kt) ?_
    show Goes p e below s _ _ _ (s₁.setTop (mkF m 18 #[.val (.long q1), .second, .val (.int p2), .val (.long (q1 + (p2.toInt64))), .second] []))
    refine Goes.pre (fun t kt => XS.iloadN X0.here hx rfl (hb hby d16_18) rfl kt) ?_
    show Goes p e below s _ _ _ (s₁.setTop (mkF m 19 #[.val (.long q1), .second, .val (.int p2), .val (.long (q1 + (p2.toInt64))), .second] [(.int p2)]))
    by_cases hc19 : p2 < (0 : Int32)
    · refine Goes.pre (fun t kt => XS.ifNo X0.here hx rfl (hb hby d16_19) rfl (Jvm.Free.XT.i0_ge_f (hc19)) kt) ?_
      show Goes p e below s _ _ _ (s₁.setTop (mkF m 22 #[.val (.long q1), .second, .val (.int p2), .val (.long (q1 + (p2.toInt64))), .second] []))
      refine Goes.pre (X0.ldc2Long hx hown (mvT hZ (hw _ (List.mem_of_getElem? (i := 136) rfl))) (g := (mkF m 22 #[.val (.long q1), .second, .val (.int p2), .val (.long (q1 + (p2.toInt64))), .second] [])) rfl (hb hby d16_22)) ?_
      show Goes p e below s _ _ _ (s₁.setTop (mkF m 25 #[.val (.long q1), .second, .val (.int p2), .val (.long (q1 + (p2.toInt64))), .second] [(.long (-9223372036854775808 : Int64))]))
      refine Goes.pre (fun t kt => XS.goto X0.here hx rfl (pc0 := 25) (pc' := 31) rfl (hb hby d16_25) (by decide) (by decide) kt) ?_
      show Goes p e below s _ _ _ (s₁.setTop (mkF m 31 #[.val (.long q1), .second, .val (.int p2), .val (.long (q1 + (p2.toInt64))), .second] [(.long (-9223372036854775808 : Int64))]))
      refine Goes.ret X0 (some (.long (-9223372036854775808 : Int64))) (fun h => by rw [Bd.returns] at h; cases h) (BodyLoose.notSynchronized Bd) (by decide) (by decide) (fun fs hr => retOut X0 hx (t := .long) Bd.returns rfl (Or.inr (Or.inl ⟨rfl, rfl, _, rfl⟩)) (hb hby d16_31) hr) ?_
      show Q_rm16 Z q1 p2 h0 n0 _ s₁.heap _
      rw [e0]
      exact ⟨(by unfold own_lo; rw [if_pos hc15, if_pos hc19]), N0, rfl⟩
    · refine Goes.pre (fun t kt => XS.ifYes X0.here hx rfl (pc0 := 19) (pc' := 28) rfl (hb hby d16_19) rfl (Jvm.Free.XT.i0_ge_t (hc19)) (by decide) (by decide) kt) ?_
      show Goes p e below s _ _ _ (s₁.setTop (mkF m 28 #[.val (.long q1), .second, .val (.int p2), .val (.long (q1 + (p2.toInt64))), .second] []))
      refine Goes.pre (X0.ldc2Long hx hown (mvT hZ (hw _ (List.mem_of_getElem? (i := 137) rfl))) (g := (mkF m 28 #[.val (.long q1), .second, .val (.int p2), .val (.long (q1 + (p2.toInt64))), .second] [])) rfl (hb hby d16_28)) ?_
      show Goes p e below s _ _ _ (s₁.setTop (mkF m 31 #[.val (.long q1), .second, .val (.int p2), .val (.long (q1 + (p2.toInt64))), .second] [(.long (9223372036854775807 : Int64))]))
      refine Goes.ret X0 (some (.long (9223372036854775807 : Int64))) (fun h => by rw [Bd.returns] at h; cases h) (BodyLoose.notSynchronized Bd) (by decide) (by decide) (fun fs hr => retOut X0 hx (t := .long) Bd.returns rfl (Or.inr (Or.inl ⟨rfl, rfl, _, rfl⟩)) (hb hby d16_31) hr) ?_
      show Q_rm16 Z q1 p2 h0 n0 _ s₁.heap _
      rw [e0]
      exact ⟨(by unfold own_lo; rw [if_pos hc15, if_neg hc19]), N0, rfl⟩
  · refine Goes.pre (fun t kt => XS.ifYes X0.here hx rfl (pc0 := 15) (pc' := 32) rfl (hb hby d16_15) rfl (Jvm.Free.XT.i0_ge_t ((not_congr (lw_lt _ _)).mpr hc15)) (by decide) (by decide) kt) ?_
    show Goes p e below s _ _ _ (s₁.setTop (mkF m 32 #[.val (.long q1), .second, .val (.int p2), .val (.long (q1 + (p2.toInt64))), .second] []))
    refine Goes.pre (fun t kt => XS.lloadN X0.here hx rfl (hb hby d16_32) rfl kt) ?_
    show Goes p e below s _ _ _ (s₁.setTop (mkF m 33 #[.val (.long q1), .second, .val (.int p2), .val (.long (q1 + (p2.toInt64))), .second] [(.long (q1 + (p2.toInt64)))]))
    refine Goes.ret X0 (some (.long (q1 + (p2.toInt64)))) (fun h => by rw [Bd.returns] at h; cases h) (BodyLoose.notSynchronized Bd) (by decide) (by decide) (fun fs hr => retOut X0 hx (t := .long) Bd.returns rfl (Or.inr (Or.inl ⟨rfl, rfl, _, rfl⟩)) (hb hby d16_33) hr) ?_
    show Q_rm16 Z q1 p2 h0 n0 _ s₁.heap _
    rw [e0]
    exact ⟨(by unfold own_lo; rw [if_neg hc15]), N0, rfl⟩
theorem d15_0 : decode prog_49_method_17_code 0 = .ok (.aload_n 0, 1) := by decide +kernel
theorem d15_1 : decode prog_49_method_17_code 1 = .ok (.getfield 13, 3) := by decide +kernel
theorem d15_4 : decode prog_49_method_17_code 4 = .ok (.aload_n 0, 1) := by decide +kernel
theorem d15_5 : decode prog_49_method_17_code 5 = .ok (.getfield 32, 3) := by decide +kernel
theorem d15_8 : decode prog_49_method_17_code 8 = .ok (.invokestatic 57, 3) := by decide +kernel
theorem pd_1 : parseMethodDescriptor "(JI)J" = some ⟨[.long, .int], some .long⟩ := by decide +kernel
theorem d15_11 : decode prog_49_method_17_code 11 = .ok (.lreturn, 1) := by decide +kernel
def Q_rm15 (Z : State) (a1 : Addr) (f1 : Int64) (f2 : Int32) (h0 : Heap) (n0 : Nat) (v : Option Value) (h : Heap) (L : List Loc) : Prop := v = some (.long (own_lo f1 f2)) ∧ Fr n0 L ∧ h = h0
theorem ef_rm15 (m : MethodId) (a1 : Addr) : entryFrame m #[(.ref a1)] 1 = mkF m 0 #[.val (.ref a1)] [] := by first | (simp [entryFrame, mkF, argsToLocals, Value.category]; done) | rfl
set_option maxRecDepth 65536 in
set_option maxHeartbeats 40000000 in
theorem rm15 (l : Launch) (Z : State) (a0 : Array Value) (hw : ∀ d ∈ tables_1, d.before a0 Z = true) (ws : List Jvm.Cond) (a1 : Addr) (f1 : Int64) (f2 : Int32) (h0 : Heap) (n0 : Nat) (Z0 : n0 ≤ h0.size) (pf_F_a1_com_example_seqlint_seqlint_kafka_Batch_baseOffset : Fld Z h0 a1 "com/example/seqlint/seqlint/kafka/Batch" "baseOffset" "J" (.long f1)) (pf_F_a1_com_example_seqlint_seqlint_kafka_Batch_lastOffsetDelta : Fld Z h0 a1 "com/example/seqlint/seqlint/kafka/Batch" "lastOffsetDelta" "I" (.int f2)) :
    MetFree l (⟨"com/example/seqlint/seqlint/kafka/Batch", "lastOffset", "()J"⟩ : MethodName) (head1 (Jvm.Cond.code (⟨"com/example/seqlint/seqlint/kafka/Batch", "lastOffset", "()J"⟩ : MethodName) prog_49_method_17_code 1 (some .long) :: ws) ({ frames := 1, cells := 0, slots := 0, locals := 16 } : Room)) (fun a U => a = #[(.ref a1)] ∧ Z.Warmed39 U.vm ∧ U.heap = h0) (fun _ _ _ _ _ => True) (fun _ U o U' => ∃ v L, o = .returned v ∧ Q_rm15 Z a1 f1 f2 h0 n0 v U'.heap L ∧ FrameEnd U o U' L ({ frames := 1, cells := 0, slots := 0, locals := 16 } : Room).cells ({ frames := 1, cells := 0, slots := 0, locals := 16 } : Room).slots) := by
  refine MetFree.of_bodySF (plainFor_of_name pn_0) hisR ?_
  intro p e s m args below meth c s₁ Bd hml0 hP hK
  obtain ⟨rfl, hZ, hh⟩ := hP
  have hx := Bd.exec
  have hby := Bd.bytes
  have hml : c.maxLocals = 1 := hml0
  have hown : s.vm.findClass "com/example/seqlint/seqlint/kafka/Batch" = some m.cls := findClass_of_methodNamed Bd.named
  have hnm := (name_of_methodNamed Bd.named Bd.method).1
  have X0 : Stand p l e ({ frames := 1, cells := 0, slots := 0, locals := 16 } : Room) s m #[(.ref a1)] below meth c s₁ [] 0 0 := Stand.of_body Bd
  have e0 : s₁.heap = h0 := by rw [← hh, Bd.state]; rfl
  have N0 := Fr.nil n0
  show Goes p e below s (Q_rm15 Z a1 f1 f2 h0 n0) ({ frames := 1, cells := 0, slots := 0, locals := 16 } : Room).cells ({ frames := 1, cells := 0, slots := 0, locals := 16 } : Room).slots (s₁.setTop (entryFrame m #[(.ref a1)] 1))
  refine Goes.pre (fun t kt => castTop (ef_rm15 m a1) kt) ?_
  show Goes p e below s _ _ _ (s₁.setTop (mkF m 0 #[.val (.ref a1)] []))
  refine Goes.pre (fun t kt => XS.aloadN X0.here hx rfl (hb hby d15_0) rfl rfl kt) ?_
  show Goes p e below s _ _ _ (s₁.setTop (mkF m 1 #[.val (.ref a1)] [(.ref a1)]))
  obtain ⟨T1, X1, e1, st1⟩ := getF X0 hx hZ hown (host := "") (Or.inl (hw _ (List.mem_of_getElem? (i := 28) rfl))) Via.refl e0 pf_F_a1_com_example_seqlint_seqlint_kafka_Batch_baseOffset (g := (mkF m 1 #[.val (.ref a1)] [(.ref a1)])) rfl rfl (hb hby d15_1)
  refine Goes.pre st1 ?_
  show Goes p e below s _ _ _ (T1.setTop (mkF m 4 #[.val (.ref a1)] [(.long f1)]))
  refine Goes.pre (fun t kt => XS.aloadN X1.here hx rfl (hb hby d15_4) rfl rfl kt) ?_
  show Goes p e below s _ _ _ (T1.setTop (mkF m 5 #[.val (.ref a1)] [(.ref a1), (.long f1)]))
  obtain ⟨T2, X2, e2, st2⟩ := getF X1 hx hZ hown (host := "") (Or.inl (hw _ (List.mem_of_getElem? (i := 37) rfl))) Via.refl e1 pf_F_a1_com_example_seqlint_seqlint_kafka_Batch_lastOffsetDelta (g := (mkF m 5 #[.val (.ref a1)] [(.ref a1), (.long f1)])) rfl rfl (hb hby d15_5)
  refine Goes.pre st2 ?_
  show Goes p e below s _ _ _ (T2.setTop (mkF m 8 #[.val (.ref a1)] [(.int f2), (.long f1)]))
  obtain ⟨_, _, ⟨T3, L3, k3, n3⟩, -, X3, ⟨Lc3, hQ3, l3, y3, z3⟩, st3⟩ := Jvm.LawKit.callS X2 hx (y := (⟨"com/example/seqlint/seqlint/kafka/Batch", "lastOffset", "(JI)J"⟩ : MethodName)) hown (mvT hZ (hw _ (List.mem_of_getElem? (i := 107) rfl))) (mvT hZ (hw _ (List.mem_of_getElem? (i := 108) rfl))) (mvT hZ (hw _ (List.mem_of_getElem? (i := 2) rfl))) (mvT hZ (hw _ (List.mem_of_getElem? (i := 109) rfl))) (by decide) (backOf (W := 0) (rm16 l Z a0 hw [] f1 f2 h0 n0 Z0 ) hZ (hw _ (List.mem_of_getElem? (i := 109) rfl)) (hw _ (List.mem_of_getElem? (i := 2) rfl)) (by decide) (by decide)) (g := (mkF m 8 #[.val (.ref a1)] [(.int f2), (.long f1)])) rfl (by rw [hml]; rfl) (argsL := [(.long f1), (.int f2)]) (rest := []) (lenOf pd_1 rfl) rfl (by show 2 * 0 + _ ≤ _; exact Nat.le_of_eq rfl) (hb hby d15_8) (fun _ _ => ⟨rfl, e2, (by decide : 0 + 0 ≤ _), (by decide : 0 + 0 ≤ _)⟩)
  dsimp only [Pt.U, Pt.locs, Pt.cells, Pt.slots] at X3 l3 y3 z3 st3 hQ3
  subst l3 y3 z3
  obtain ⟨rfl, Nq3, eq3⟩ := hQ3
  refine Goes.pre st3 ?_
  have N3 := Fr.app N0 Nq3
  show Goes p e below s _ _ _ (T3.setTop (mkF m 11 #[.val (.ref a1)] [(.long (own_lo f1 f2))]))
  refine Goes.ret X3 (some (.long (own_lo f1 f2))) (fun h => by rw [Bd.returns] at h; cases h) (BodyLoose.notSynchronized Bd) (by decide) (by decide) (fun fs hr => retOut X3 hx (t := .long) Bd.returns rfl (Or.inr (Or.inl ⟨rfl, rfl, _, rfl⟩)) (hb hby d15_11) hr) ?_
  show Q_rm15 Z a1 f1 f2 h0 n0 _ T3.heap _
  rw [eq3]
  exact ⟨rfl, N3, rfl⟩
theorem d17_0 : decode prog_49_method_16_code 0 = .ok (.aload_n 0, 1) := by decide +kernel
theorem d17_1 : decode prog_49_method_16_code 1 = .ok (.getfield 41, 3) := by decide +kernel
theorem d17_4 : decode prog_49_method_16_code 4 = .ok (.ldc2_w 23, 3) := by decide +kernel
theorem d17_7 : decode prog_49_method_16_code 7 = .ok (.lcmp, 1) := by decide +kernel
theorem d17_8 : decode prog_49_method_16_code 8 = .ok (.ifCond .eq 17, 3) := by decide +kernel
theorem d17_25 : decode prog_49_method_16_code 25 = .ok (.iconst 0, 1) := by decide +kernel
theorem d17_26 : decode prog_49_method_16_code 26 = .ok (.ireturn, 1) := by decide +kernel
theorem d17_11 : decode prog_49_method_16_code 11 = .ok (.aload_n 0, 1) := by decide +kernel
theorem d17_12 : decode prog_49_method_16_code 12 = .ok (.getfield 28, 3) := by decide +kernel
theorem d17_15 : decode prog_49_method_16_code 15 = .ok (.bipush 32, 2) := by decide +kernel
theorem d17_17 : decode prog_49_method_16_code 17 = .ok (.iand, 1) := by decide +kernel
theorem d17_18 : decode prog_49_method_16_code 18 = .ok (.ifCond .eq 7, 3) := by decide +kernel
theorem d17_21 : decode prog_49_method_16_code 21 = .ok (.iconst 1, 1) := by decide +kernel
theorem d17_22 : decode prog_49_method_16_code 22 = .ok (.goto 4, 3) := by decide +kernel
def Q_rm17 (Z : State) (a1 : Addr) (f1 : Int64) (f3 : Int32) (h0 : Heap) (n0 : Nat) (v : Option Value) (h : Heap) (L : List Loc) : Prop := v = some (.int (own_mk f1 f3)) ∧ Fr n0 L ∧ h = h0
theorem ef_rm17 (m : MethodId) (a1 : Addr) : entryFrame m #[(.ref a1)] 1 = mkF m 0 #[.val (.ref a1)] [] := by first | (simp [entryFrame, mkF, argsToLocals, Value.category]; done) | rfl
set_option maxRecDepth 65536 in
set_option maxHeartbeats 40000000 in
theorem rm17 (l : Launch) (Z : State) (a0 : Array Value) (hw : ∀ d ∈ tables_1, d.before a0 Z = true) (ws : List Jvm.Cond) (a1 : Addr) (f1 : Int64) (f3 : Int32) (h0 : Heap) (n0 : Nat) (Z0 : n0 ≤ h0.size) (pf_F_a1_com_example_seqlint_seqlint_kafka_Batch_producerId : Fld Z h0 a1 "com/example/seqlint/seqlint/kafka/Batch" "producerId" "J" (.long f1)) (pf_F_a1_com_example_seqlint_seqlint_kafka_Batch_attributes : Fld Z h0 a1 "com/example/seqlint/seqlint/kafka/Batch" "attributes" "S" (.int f3)) :
    MetFree l (⟨"com/example/seqlint/seqlint/kafka/Batch", "isMarker", "()Z"⟩ : MethodName) (head1 (Jvm.Cond.code (⟨"com/example/seqlint/seqlint/kafka/Batch", "isMarker", "()Z"⟩ : MethodName) prog_49_method_16_code 1 (some .boolean) :: ws) ({ frames := 0, cells := 0, slots := 0, locals := 0 } : Room)) (fun a U => a = #[(.ref a1)] ∧ Z.Warmed39 U.vm ∧ U.heap = h0) (fun _ _ _ _ _ => True) (fun _ U o U' => ∃ v L, o = .returned v ∧ Q_rm17 Z a1 f1 f3 h0 n0 v U'.heap L ∧ FrameEnd U o U' L ({ frames := 0, cells := 0, slots := 0, locals := 0 } : Room).cells ({ frames := 0, cells := 0, slots := 0, locals := 0 } : Room).slots) := by
  refine MetFree.of_bodySF (plainFor_of_name pn_0) hisR ?_
  intro p e s m args below meth c s₁ Bd hml0 hP hK
  obtain ⟨rfl, hZ, hh⟩ := hP
  have hx := Bd.exec
  have hby := Bd.bytes
  have hml : c.maxLocals = 1 := hml0
  have hown : s.vm.findClass "com/example/seqlint/seqlint/kafka/Batch" = some m.cls := findClass_of_methodNamed Bd.named
  have hnm := (name_of_methodNamed Bd.named Bd.method).1
  have X0 : Stand p l e ({ frames := 0, cells := 0, slots := 0, locals := 0 } : Room) s m #[(.ref a1)] below meth c s₁ [] 0 0 := Stand.of_body Bd
  have e0 : s₁.heap = h0 := by rw [← hh, Bd.state]; rfl
  have N0 := Fr.nil n0
  show Goes p e below s (Q_rm17 Z a1 f1 f3 h0 n0) ({ frames := 0, cells := 0, slots := 0, locals := 0 } : Room).cells ({ frames := 0, cells := 0, slots := 0, locals := 0 } : Room).slots (s₁.setTop (entryFrame m #[(.ref a1)] 1))
  refine Goes.pre (fun t kt => castTop (ef_rm17 m a1) kt) ?_
  show Goes p e below s _ _ _ (s₁.setTop (mkF m 0 #[.val (.ref a1)] []))
  refine Goes.pre (fun t kt => XS.aloadN X0.here hx rfl (hb hby d17_0) rfl rfl kt) ?_
  show Goes p e below s _ _ _ (s₁.setTop (mkF m 1 #[.val (.ref a1)] [(.ref a1)]))
  obtain ⟨T1, X1, e1, st1⟩ := getF X0 hx hZ hown (host := "") (Or.inl (hw _ (List.mem_of_getElem? (i := 43) rfl))) Via.refl e0 pf_F_a1_com_example_seqlint_seqlint_kafka_Batch_producerId (g := (mkF m 1 #[.val (.ref a1)] [(.ref a1)])) rfl rfl (hb hby d17_1)
  refine Goes.pre st1 ?_
  show Goes p e below s _ _ _ (T1.setTop (mkF m 4 #[.val (.ref a1)] [(.long f1)]))
  refine Goes.pre (X1.ldc2Long hx hown (mvT hZ (hw _ (List.mem_of_getElem? (i := 34) rfl))) (g := (mkF m 4 #[.val (.ref a1)] [(.long f1)])) rfl (hb hby d17_4)) ?_
  show Goes p e below s _ _ _ (T1.setTop (mkF m 7 #[.val (.ref a1)] [(.long (-1 : Int64)), (.long f1)]))
  refine Goes.pre (fun t kt => XS.lcmp X1.here hx rfl (hb hby d17_7) rfl kt) ?_
  show Goes p e below s _ _ _ (T1.setTop (mkF m 8 #[.val (.ref a1)] [(.int (lcmpW f1 (-1 : Int64)))]))
  by_cases hc8 : f1 = (-1 : Int64)
  · refine Goes.pre (fun t kt => XS.ifYes X1.here hx rfl (pc0 := 8) (pc' := 25) rfl (hb hby d17_8) rfl (Jvm.Free.XT.i0_eq_t ((lw_eq _ _).mpr hc8)) (by decide) (by decide) kt) ?_
    show Goes p e below s _ _ _ (T1.setTop (mkF m 25 #[.val (.ref a1)] []))
    refine Goes.pre (fun t kt => XS.iconst X1.here hx rfl (hb hby d17_25) kt) ?_
    show Goes p e below s _ _ _ (T1.setTop (mkF m 26 #[.val (.ref a1)] [(.int (0 : Int32))]))
    refine Goes.ret X1 (some (.int (0 : Int32))) (fun h => by rw [Bd.returns] at h; cases h) (BodyLoose.notSynchronized Bd) (by decide) (by decide) (fun fs hr => retN X1 hx (t := .boolean) Bd.returns (by simp) (hb hby d17_26) hr) ?_
    show Q_rm17 Z a1 f1 f3 h0 n0 _ T1.heap _
    rw [e1]
    exact ⟨(by simp [own_mk, hc8]), N0, rfl⟩
  · refine Goes.pre (fun t kt => XS.ifNo X1.here hx rfl (hb hby d17_8) rfl (Jvm.Free.XT.i0_eq_f ((not_congr (lw_eq _ _)).mpr hc8)) kt) ?_
    show Goes p e below s _ _ _ (T1.setTop (mkF m 11 #[.val (.ref a1)] []))
    refine Goes.pre (fun t kt => XS.aloadN X1.here hx rfl (hb hby d17_11) rfl rfl kt) ?_
    show Goes p e below s _ _ _ (T1.setTop (mkF m 12 #[.val (.ref a1)] [(.ref a1)]))
    obtain ⟨T2, X2, e2, st2⟩ := getF X1 hx hZ hown (host := "") (Or.inl (hw _ (List.mem_of_getElem? (i := 35) rfl))) Via.refl e1 pf_F_a1_com_example_seqlint_seqlint_kafka_Batch_attributes (g := (mkF m 12 #[.val (.ref a1)] [(.ref a1)])) rfl rfl (hb hby d17_12)
    refine Goes.pre st2 ?_
    show Goes p e below s _ _ _ (T2.setTop (mkF m 15 #[.val (.ref a1)] [(.int f3)]))
    refine Goes.pre (fun t kt => XS.bipush X2.here hx rfl (hb hby d17_15) kt) ?_
    show Goes p e below s _ _ _ (T2.setTop (mkF m 17 #[.val (.ref a1)] [(.int (32 : Int32)), (.int f3)]))
    refine Goes.pre (fun t kt => XS.iand X2.here hx rfl (hb hby d17_17) rfl kt) ?_
    show Goes p e below s _ _ _ (T2.setTop (mkF m 18 #[.val (.ref a1)] [(.int (f3 &&& (32 : Int32)))]))
    by_cases hc18 : (f3 &&& (32 : Int32)) = (0 : Int32)
    · refine Goes.pre (fun t kt => XS.ifYes X2.here hx rfl (pc0 := 18) (pc' := 25) rfl (hb hby d17_18) rfl (Jvm.Free.XT.i0_eq_t (hc18)) (by decide) (by decide) kt) ?_
      show Goes p e below s _ _ _ (T2.setTop (mkF m 25 #[.val (.ref a1)] []))
      refine Goes.pre (fun t kt => XS.iconst X2.here hx rfl (hb hby d17_25) kt) ?_
      show Goes p e below s _ _ _ (T2.setTop (mkF m 26 #[.val (.ref a1)] [(.int (0 : Int32))]))
      refine Goes.ret X2 (some (.int (0 : Int32))) (fun h => by rw [Bd.returns] at h; cases h) (BodyLoose.notSynchronized Bd) (by decide) (by decide) (fun fs hr => retN X2 hx (t := .boolean) Bd.returns (by simp) (hb hby d17_26) hr) ?_
      show Q_rm17 Z a1 f1 f3 h0 n0 _ T2.heap _
      rw [e2]
      exact ⟨(by simp [own_mk, hc8, hc18]), N0, rfl⟩
    · refine Goes.pre (fun t kt => XS.ifNo X2.here hx rfl (hb hby d17_18) rfl (Jvm.Free.XT.i0_eq_f (hc18)) kt) ?_
      show Goes p e below s _ _ _ (T2.setTop (mkF m 21 #[.val (.ref a1)] []))
      refine Goes.pre (fun t kt => XS.iconst X2.here hx rfl (hb hby d17_21) kt) ?_
      show Goes p e below s _ _ _ (T2.setTop (mkF m 22 #[.val (.ref a1)] [(.int (1 : Int32))]))
      refine Goes.pre (fun t kt => XS.goto X2.here hx rfl (pc0 := 22) (pc' := 26) rfl (hb hby d17_22) (by decide) (by decide) kt) ?_
      show Goes p e below s _ _ _ (T2.setTop (mkF m 26 #[.val (.ref a1)] [(.int (1 : Int32))]))
      refine Goes.ret X2 (some (.int (1 : Int32))) (fun h => by rw [Bd.returns] at h; cases h) (BodyLoose.notSynchronized Bd) (by decide) (by decide) (fun fs hr => retN X2 hx (t := .boolean) Bd.returns (by simp) (hb hby d17_26) hr) ?_
      show Q_rm17 Z a1 f1 f3 h0 n0 _ T2.heap _
      rw [e2]
      exact ⟨(by simp [own_mk, hc8, hc18]), N0, rfl⟩
theorem d18_0 : decode prog_49_method_15_code 0 = .ok (.aload_n 0, 1) := by decide +kernel
theorem d18_1 : decode prog_49_method_15_code 1 = .ok (.getfield 41, 3) := by decide +kernel
theorem d18_4 : decode prog_49_method_15_code 4 = .ok (.ldc2_w 23, 3) := by decide +kernel
theorem d18_7 : decode prog_49_method_15_code 7 = .ok (.lcmp, 1) := by decide +kernel
theorem d18_8 : decode prog_49_method_15_code 8 = .ok (.ifCond .eq 19, 3) := by decide +kernel
theorem d18_27 : decode prog_49_method_15_code 27 = .ok (.iconst 0, 1) := by decide +kernel
theorem d18_28 : decode prog_49_method_15_code 28 = .ok (.ireturn, 1) := by decide +kernel
theorem d18_11 : decode prog_49_method_15_code 11 = .ok (.aload_n 0, 1) := by decide +kernel
theorem d18_12 : decode prog_49_method_15_code 12 = .ok (.getfield 28, 3) := by decide +kernel
theorem d18_15 : decode prog_49_method_15_code 15 = .ok (.bipush 48, 2) := by decide +kernel
theorem d18_17 : decode prog_49_method_15_code 17 = .ok (.iand, 1) := by decide +kernel
theorem d18_18 : decode prog_49_method_15_code 18 = .ok (.bipush 16, 2) := by decide +kernel
theorem d18_20 : decode prog_49_method_15_code 20 = .ok (.if_icmp .ne 7, 3) := by decide +kernel
theorem d18_23 : decode prog_49_method_15_code 23 = .ok (.iconst 1, 1) := by decide +kernel
theorem d18_24 : decode prog_49_method_15_code 24 = .ok (.goto 4, 3) := by decide +kernel
def Q_rm18 (Z : State) (a1 : Addr) (f1 : Int64) (f3 : Int32) (h0 : Heap) (n0 : Nat) (v : Option Value) (h : Heap) (L : List Loc) : Prop := v = some (.int (own_tx f1 f3)) ∧ Fr n0 L ∧ h = h0
theorem ef_rm18 (m : MethodId) (a1 : Addr) : entryFrame m #[(.ref a1)] 1 = mkF m 0 #[.val (.ref a1)] [] := by first | (simp [entryFrame, mkF, argsToLocals, Value.category]; done) | rfl
set_option maxRecDepth 65536 in
set_option maxHeartbeats 40000000 in
theorem rm18 (l : Launch) (Z : State) (a0 : Array Value) (hw : ∀ d ∈ tables_1, d.before a0 Z = true) (ws : List Jvm.Cond) (a1 : Addr) (f1 : Int64) (f3 : Int32) (h0 : Heap) (n0 : Nat) (Z0 : n0 ≤ h0.size) (pf_F_a1_com_example_seqlint_seqlint_kafka_Batch_producerId : Fld Z h0 a1 "com/example/seqlint/seqlint/kafka/Batch" "producerId" "J" (.long f1)) (pf_F_a1_com_example_seqlint_seqlint_kafka_Batch_attributes : Fld Z h0 a1 "com/example/seqlint/seqlint/kafka/Batch" "attributes" "S" (.int f3)) :
    MetFree l (⟨"com/example/seqlint/seqlint/kafka/Batch", "isTransactional", "()Z"⟩ : MethodName) (head1 (Jvm.Cond.code (⟨"com/example/seqlint/seqlint/kafka/Batch", "isTransactional", "()Z"⟩ : MethodName) prog_49_method_15_code 1 (some .boolean) :: ws) ({ frames := 0, cells := 0, slots := 0, locals := 0 } : Room)) (fun a U => a = #[(.ref a1)] ∧ Z.Warmed39 U.vm ∧ U.heap = h0) (fun _ _ _ _ _ => True) (fun _ U o U' => ∃ v L, o = .returned v ∧ Q_rm18 Z a1 f1 f3 h0 n0 v U'.heap L ∧ FrameEnd U o U' L ({ frames := 0, cells := 0, slots := 0, locals := 0 } : Room).cells ({ frames := 0, cells := 0, slots := 0, locals := 0 } : Room).slots) := by
  refine MetFree.of_bodySF (plainFor_of_name pn_0) hisR ?_
  intro p e s m args below meth c s₁ Bd hml0 hP hK
  obtain ⟨rfl, hZ, hh⟩ := hP
  have hx := Bd.exec
  have hby := Bd.bytes
  have hml : c.maxLocals = 1 := hml0
  have hown : s.vm.findClass "com/example/seqlint/seqlint/kafka/Batch" = some m.cls := findClass_of_methodNamed Bd.named
  have hnm := (name_of_methodNamed Bd.named Bd.method).1
  have X0 : Stand p l e ({ frames := 0, cells := 0, slots := 0, locals := 0 } : Room) s m #[(.ref a1)] below meth c s₁ [] 0 0 := Stand.of_body Bd
  have e0 : s₁.heap = h0 := by rw [← hh, Bd.state]; rfl
  have N0 := Fr.nil n0
  show Goes p e below s (Q_rm18 Z a1 f1 f3 h0 n0) ({ frames := 0, cells := 0, slots := 0, locals := 0 } : Room).cells ({ frames := 0, cells := 0, slots := 0, locals := 0 } : Room).slots (s₁.setTop (entryFrame m #[(.ref a1)] 1))
  refine Goes.pre (fun t kt => castTop (ef_rm18 m a1) kt) ?_
  show Goes p e below s _ _ _ (s₁.setTop (mkF m 0 #[.val (.ref a1)] []))
  refine Goes.pre (fun t kt => XS.aloadN X0.here hx rfl (hb hby d18_0) rfl rfl kt) ?_
  show Goes p e below s _ _ _ (s₁.setTop (mkF m 1 #[.val (.ref a1)] [(.ref a1)]))
  obtain ⟨T1, X1, e1, st1⟩ := getF X0 hx hZ hown (host := "") (Or.inl (hw _ (List.mem_of_getElem? (i := 43) rfl))) Via.refl e0 pf_F_a1_com_example_seqlint_seqlint_kafka_Batch_producerId (g := (mkF m 1 #[.val (.ref a1)] [(.ref a1)])) rfl rfl (hb hby d18_1)
  refine Goes.pre st1 ?_
  show Goes p e below s _ _ _ (T1.setTop (mkF m 4 #[.val (.ref a1)] [(.long f1)]))
  refine Goes.pre (X1.ldc2Long hx hown (mvT hZ (hw _ (List.mem_of_getElem? (i := 34) rfl))) (g := (mkF m 4 #[.val (.ref a1)] [(.long f1)])) rfl (hb hby d18_4)) ?_
  show Goes p e below s _ _ _ (T1.setTop (mkF m 7 #[.val (.ref a1)] [(.long (-1 : Int64)), (.long f1)]))
  refine Goes.pre (fun t kt => XS.lcmp X1.here hx rfl (hb hby d18_7) rfl kt) ?_
  show Goes p e below s _ _ _ (T1.setTop (mkF m 8 #[.val (.ref a1)] [(.int (lcmpW f1 (-1 : Int64)))]))
  by_cases hc8 : f1 = (-1 : Int64)
  · refine Goes.pre (fun t kt => XS.ifYes X1.here hx rfl (pc0 := 8) (pc' := 27) rfl (hb hby d18_8) rfl (Jvm.Free.XT.i0_eq_t ((lw_eq _ _).mpr hc8)) (by decide) (by decide) kt) ?_
    show Goes p e below s _ _ _ (T1.setTop (mkF m 27 #[.val (.ref a1)] []))
    refine Goes.pre (fun t kt => XS.iconst X1.here hx rfl (hb hby d18_27) kt) ?_
    show Goes p e below s _ _ _ (T1.setTop (mkF m 28 #[.val (.ref a1)] [(.int (0 : Int32))]))
    refine Goes.ret X1 (some (.int (0 : Int32))) (fun h => by rw [Bd.returns] at h; cases h) (BodyLoose.notSynchronized Bd) (by decide) (by decide) (fun fs hr => retN X1 hx (t := .boolean) Bd.returns (by simp) (hb hby d18_28) hr) ?_
    show Q_rm18 Z a1 f1 f3 h0 n0 _ T1.heap _
    rw [e1]
    exact ⟨(by simp [own_tx, hc8]), N0, rfl⟩
  · refine Goes.pre (fun t kt => XS.ifNo X1.here hx rfl (hb hby d18_8) rfl (Jvm.Free.XT.i0_eq_f ((not_congr (lw_eq _ _)).mpr hc8)) kt) ?_
    show Goes p e below s _ _ _ (T1.setTop (mkF m 11 #[.val (.ref a1)] []))
    refine Goes.pre (fun t kt => XS.aloadN X1.here hx rfl (hb hby d18_11) rfl rfl kt) ?_
    show Goes p e below s _ _ _ (T1.setTop (mkF m 12 #[.val (.ref a1)] [(.ref a1)]))
    obtain ⟨T2, X2, e2, st2⟩ := getF X1 hx hZ hown (host := "") (Or.inl (hw _ (List.mem_of_getElem? (i := 35) rfl))) Via.refl e1 pf_F_a1_com_example_seqlint_seqlint_kafka_Batch_attributes (g := (mkF m 12 #[.val (.ref a1)] [(.ref a1)])) rfl rfl (hb hby d18_12)
    refine Goes.pre st2 ?_
    show Goes p e below s _ _ _ (T2.setTop (mkF m 15 #[.val (.ref a1)] [(.int f3)]))
    refine Goes.pre (fun t kt => XS.bipush X2.here hx rfl (hb hby d18_15) kt) ?_
    show Goes p e below s _ _ _ (T2.setTop (mkF m 17 #[.val (.ref a1)] [(.int (48 : Int32)), (.int f3)]))
    refine Goes.pre (fun t kt => XS.iand X2.here hx rfl (hb hby d18_17) rfl kt) ?_
    show Goes p e below s _ _ _ (T2.setTop (mkF m 18 #[.val (.ref a1)] [(.int (f3 &&& (48 : Int32)))]))
    refine Goes.pre (fun t kt => XS.bipush X2.here hx rfl (hb hby d18_18) kt) ?_
    show Goes p e below s _ _ _ (T2.setTop (mkF m 20 #[.val (.ref a1)] [(.int (16 : Int32)), (.int (f3 &&& (48 : Int32)))]))
    by_cases hc20 : (f3 &&& (48 : Int32)) = (16 : Int32)
    · refine Goes.pre (fun t kt => XS.icmpNo X2.here hx rfl (hb hby d18_20) rfl (Jvm.Free.XT.ii_ne_f (hc20)) kt) ?_
      show Goes p e below s _ _ _ (T2.setTop (mkF m 23 #[.val (.ref a1)] []))
      refine Goes.pre (fun t kt => XS.iconst X2.here hx rfl (hb hby d18_23) kt) ?_
      show Goes p e below s _ _ _ (T2.setTop (mkF m 24 #[.val (.ref a1)] [(.int (1 : Int32))]))
      refine Goes.pre (fun t kt => XS.goto X2.here hx rfl (pc0 := 24) (pc' := 28) rfl (hb hby d18_24) (by decide) (by decide) kt) ?_
      show Goes p e below s _ _ _ (T2.setTop (mkF m 28 #[.val (.ref a1)] [(.int (1 : Int32))]))
      refine Goes.ret X2 (some (.int (1 : Int32))) (fun h => by rw [Bd.returns] at h; cases h) (BodyLoose.notSynchronized Bd) (by decide) (by decide) (fun fs hr => retN X2 hx (t := .boolean) Bd.returns (by simp) (hb hby d18_28) hr) ?_
      show Q_rm18 Z a1 f1 f3 h0 n0 _ T2.heap _
      rw [e2]
      exact ⟨(by simp [own_tx, hc8, hc20]), N0, rfl⟩
    · refine Goes.pre (fun t kt => XS.icmpYes X2.here hx rfl (pc0 := 20) (pc' := 27) rfl (hb hby d18_20) rfl (Jvm.Free.XT.ii_ne_t (hc20)) (by decide) (by decide) kt) ?_
      show Goes p e below s _ _ _ (T2.setTop (mkF m 27 #[.val (.ref a1)] []))
      refine Goes.pre (fun t kt => XS.iconst X2.here hx rfl (hb hby d18_27) kt) ?_
      show Goes p e below s _ _ _ (T2.setTop (mkF m 28 #[.val (.ref a1)] [(.int (0 : Int32))]))
      refine Goes.ret X2 (some (.int (0 : Int32))) (fun h => by rw [Bd.returns] at h; cases h) (BodyLoose.notSynchronized Bd) (by decide) (by decide) (fun fs hr => retN X2 hx (t := .boolean) Bd.returns (by simp) (hb hby d18_28) hr) ?_
      show Q_rm18 Z a1 f1 f3 h0 n0 _ T2.heap _
      rw [e2]
      exact ⟨(by simp [own_tx, hc8, hc20]), N0, rfl⟩
theorem d20_0 : decode prog_49_method_23_code 0 = .ok (.aload_n 0, 1) := by decide +kernel
theorem d20_1 : decode prog_49_method_23_code 1 = .ok (.getfield 25, 3) := by decide +kernel
theorem d20_4 : decode prog_49_method_23_code 4 = .ok (.aload_n 0, 1) := by decide +kernel
theorem d20_5 : decode prog_49_method_23_code 5 = .ok (.getfield 20, 3) := by decide +kernel
theorem d20_8 : decode prog_49_method_23_code 8 = .ok (.lcmp, 1) := by decide +kernel
theorem d20_9 : decode prog_49_method_23_code 9 = .ok (.ifCond .ne 7, 3) := by decide +kernel
theorem d20_12 : decode prog_49_method_23_code 12 = .ok (.iconst 1, 1) := by decide +kernel
theorem d20_13 : decode prog_49_method_23_code 13 = .ok (.goto 4, 3) := by decide +kernel
theorem d20_17 : decode prog_49_method_23_code 17 = .ok (.ireturn, 1) := by decide +kernel
def Q_rm20 (Z : State) (a1 : Addr) (cc : Int64) (h0 : Heap) (n0 : Nat) (v : Option Value) (h : Heap) (L : List Loc) : Prop := v = some (.int (1 : Int32)) ∧ Fr n0 L ∧ h = h0
theorem ef_rm20 (m : MethodId) (a1 : Addr) : entryFrame m #[(.ref a1)] 1 = mkF m 0 #[.val (.ref a1)] [] := by first | (simp [entryFrame, mkF, argsToLocals, Value.category]; done) | rfl
set_option maxRecDepth 65536 in
set_option maxHeartbeats 40000000 in
theorem rm20 (l : Launch) (Z : State) (a0 : Array Value) (hw : ∀ d ∈ tables_1, d.before a0 Z = true) (ws : List Jvm.Cond) (a1 : Addr) (cc : Int64) (h0 : Heap) (n0 : Nat) (Z0 : n0 ≤ h0.size) (pf_F_a1_com_example_seqlint_seqlint_kafka_Batch_computedCrc : Fld Z h0 a1 "com/example/seqlint/seqlint/kafka/Batch" "computedCrc" "J" (.long cc)) (pf_F_a1_com_example_seqlint_seqlint_kafka_Batch_storedCrc : Fld Z h0 a1 "com/example/seqlint/seqlint/kafka/Batch" "storedCrc" "J" (.long cc)) :
    MetFree l (⟨"com/example/seqlint/seqlint/kafka/Batch", "isIntact", "()Z"⟩ : MethodName) (head1 (Jvm.Cond.code (⟨"com/example/seqlint/seqlint/kafka/Batch", "isIntact", "()Z"⟩ : MethodName) prog_49_method_23_code 1 (some .boolean) :: ws) ({ frames := 0, cells := 0, slots := 0, locals := 0 } : Room)) (fun a U => a = #[(.ref a1)] ∧ Z.Warmed39 U.vm ∧ U.heap = h0) (fun _ _ _ _ _ => True) (fun _ U o U' => ∃ v L, o = .returned v ∧ Q_rm20 Z a1 cc h0 n0 v U'.heap L ∧ FrameEnd U o U' L ({ frames := 0, cells := 0, slots := 0, locals := 0 } : Room).cells ({ frames := 0, cells := 0, slots := 0, locals := 0 } : Room).slots) := by
  refine MetFree.of_bodySF (plainFor_of_name pn_0) hisR ?_
  intro p e s m args below meth c s₁ Bd hml0 hP hK
  obtain ⟨rfl, hZ, hh⟩ := hP
  have hx := Bd.exec
  have hby := Bd.bytes
  have hml : c.maxLocals = 1 := hml0
  have hown : s.vm.findClass "com/example/seqlint/seqlint/kafka/Batch" = some m.cls := findClass_of_methodNamed Bd.named
  have hnm := (name_of_methodNamed Bd.named Bd.method).1
  have X0 : Stand p l e ({ frames := 0, cells := 0, slots := 0, locals := 0 } : Room) s m #[(.ref a1)] below meth c s₁ [] 0 0 := Stand.of_body Bd
  have e0 : s₁.heap = h0 := by rw [← hh, Bd.state]; rfl
  have N0 := Fr.nil n0
  show Goes p e below s (Q_rm20 Z a1 cc h0 n0) ({ frames := 0, cells := 0, slots := 0, locals := 0 } : Room).cells ({ frames := 0, cells := 0, slots := 0, locals := 0 } : Room).slots (s₁.setTop (entryFrame m #[(.ref a1)] 1))
  refine Goes.pre (fun t kt => castTop (ef_rm20 m a1) kt) ?_
  show Goes p e below s _ _ _ (s₁.setTop (mkF m 0 #[.val (.ref a1)] []))
  refine Goes.pre (fun t kt => XS.aloadN X0.here hx rfl (hb hby d20_0) rfl rfl kt) ?_
  show Goes p e below s _ _ _ (s₁.setTop (mkF m 1 #[.val (.ref a1)] [(.ref a1)]))
  obtain ⟨T1, X1, e1, st1⟩ := getF X0 hx hZ hown (host := "") (Or.inl (hw _ (List.mem_of_getElem? (i := 17) rfl))) Via.refl e0 pf_F_a1_com_example_seqlint_seqlint_kafka_Batch_computedCrc (g := (mkF m 1 #[.val (.ref a1)] [(.ref a1)])) rfl rfl (hb hby d20_1)
  refine Goes.pre st1 ?_
  show Goes p e below s _ _ _ (T1.setTop (mkF m 4 #[.val (.ref a1)] [(.long cc)]))
  refine Goes.pre (fun t kt => XS.aloadN X1.here hx rfl (hb hby d20_4) rfl rfl kt) ?_
  show Goes p e below s _ _ _ (T1.setTop (mkF m 5 #[.val (.ref a1)] [(.ref a1), (.long cc)]))
  obtain ⟨T2, X2, e2, st2⟩ := getF X1 hx hZ hown (host := "") (Or.inl (hw _ (List.mem_of_getElem? (i := 32) rfl))) Via.refl e1 pf_F_a1_com_example_seqlint_seqlint_kafka_Batch_storedCrc (g := (mkF m 5 #[.val (.ref a1)] [(.ref a1), (.long cc)])) rfl rfl (hb hby d20_5)
  refine Goes.pre st2 ?_
  show Goes p e below s _ _ _ (T2.setTop (mkF m 8 #[.val (.ref a1)] [(.long cc), (.long cc)]))
  refine Goes.pre (fun t kt => XS.lcmp X2.here hx rfl (hb hby d20_8) rfl kt) ?_
  show Goes p e below s _ _ _ (T2.setTop (mkF m 9 #[.val (.ref a1)] [(.int (lcmpW cc cc))]))
  refine Goes.pre (fun t kt => XS.ifNo X2.here hx rfl (hb hby d20_9) rfl (Jvm.Free.XT.i0_ne_f ((lw_eq _ _).mpr rfl)) kt) ?_
  show Goes p e below s _ _ _ (T2.setTop (mkF m 12 #[.val (.ref a1)] []))
  refine Goes.pre (fun t kt => XS.iconst X2.here hx rfl (hb hby d20_12) kt) ?_
  show Goes p e below s _ _ _ (T2.setTop (mkF m 13 #[.val (.ref a1)] [(.int (1 : Int32))]))
  refine Goes.pre (fun t kt => XS.goto X2.here hx rfl (pc0 := 13) (pc' := 17) rfl (hb hby d20_13) (by decide) (by decide) kt) ?_
  show Goes p e below s _ _ _ (T2.setTop (mkF m 17 #[.val (.ref a1)] [(.int (1 : Int32))]))
  refine Goes.ret X2 (some (.int (1 : Int32))) (fun h => by rw [Bd.returns] at h; cases h) (BodyLoose.notSynchronized Bd) (by decide) (by decide) (fun fs hr => retN X2 hx (t := .boolean) Bd.returns (by simp) (hb hby d20_17) hr) ?_
  show Q_rm20 Z a1 cc h0 n0 _ T2.heap _
  rw [e2]
  exact ⟨rfl, N0, rfl⟩
theorem d19_0 : decode prog_49_method_26_code 0 = .ok (.aload_n 0, 1) := by decide +kernel
theorem d19_1 : decode prog_49_method_26_code 1 = .ok (.getfield 35, 3) := by decide +kernel
theorem d19_4 : decode prog_49_method_26_code 4 = .ok (.lconst 0, 1) := by decide +kernel
theorem d19_5 : decode prog_49_method_26_code 5 = .ok (.lcmp, 1) := by decide +kernel
theorem d19_6 : decode prog_49_method_26_code 6 = .ok (.ifCond .lt 17, 3) := by decide +kernel
theorem d19_23 : decode prog_49_method_26_code 23 = .ok (.ldc2_w 23, 3) := by decide +kernel
theorem d19_26 : decode prog_49_method_26_code 26 = .ok (.lreturn, 1) := by decide +kernel
theorem d19_9 : decode prog_49_method_26_code 9 = .ok (.aload_n 0, 1) := by decide +kernel
theorem d19_10 : decode prog_49_method_26_code 10 = .ok (.invokevirtual 86, 3) := by decide +kernel
theorem pd_2 : parseMethodDescriptor "()Z" = some ⟨[], some .boolean⟩ := by decide +kernel
theorem d19_13 : decode prog_49_method_26_code 13 = .ok (.ifCond .eq 10, 3) := by decide +kernel
theorem d19_16 : decode prog_49_method_26_code 16 = .ok (.aload_n 0, 1) := by decide +kernel
theorem d19_17 : decode prog_49_method_26_code 17 = .ok (.getfield 35, 3) := by decide +kernel
theorem d19_20 : decode prog_49_method_26_code 20 = .ok (.goto 6, 3) := by decide +kernel
def Q_rm19 (Z : State) (a1 : Addr) (cc : Int64) (w : Int64) (h0 : Heap) (n0 : Nat) (v : Option Value) (h : Heap) (L : List Loc) : Prop := v = some (.long (own_ts w)) ∧ Fr n0 L ∧ h = h0
theorem ef_rm19 (m : MethodId) (a1 : Addr) : entryFrame m #[(.ref a1)] 1 = mkF m 0 #[.val (.ref a1)] [] := by first | (simp [entryFrame, mkF, argsToLocals, Value.category]; done) | rfl
set_option maxRecDepth 65536 in
set_option maxHeartbeats 40000000 in
theorem rm19 (l : Launch) (Z : State) (a0 : Array Value) (hw : ∀ d ∈ tables_1, d.before a0 Z = true) (ws : List Jvm.Cond) (a1 : Addr) (cc : Int64) (w : Int64) (h0 : Heap) (n0 : Nat) (Z0 : n0 ≤ h0.size) (pf_E_a1 : Exa Z h0 a1 "com/example/seqlint/seqlint/kafka/Batch") (pf_F_a1_com_example_seqlint_seqlint_kafka_Batch_computedCrc : Fld Z h0 a1 "com/example/seqlint/seqlint/kafka/Batch" "computedCrc" "J" (.long cc)) (pf_F_a1_com_example_seqlint_seqlint_kafka_Batch_storedCrc : Fld Z h0 a1 "com/example/seqlint/seqlint/kafka/Batch" "storedCrc" "J" (.long cc)) (pf_F_a1_com_example_seqlint_seqlint_kafka_Batch_firstTimestamp : Fld Z h0 a1 "com/example/seqlint/seqlint/kafka/Batch" "firstTimestamp" "J" (.long w)) :
    MetFree l (⟨"com/example/seqlint/seqlint/kafka/Batch", "firstTimestamp", "()J"⟩ : MethodName) (head1 (Jvm.Cond.code (⟨"com/example/seqlint/seqlint/kafka/Batch", "firstTimestamp", "()J"⟩ : MethodName) prog_49_method_26_code 1 (some .long) :: ws) ({ frames := 1, cells := 0, slots := 0, locals := 12 } : Room)) (fun a U => a = #[(.ref a1)] ∧ Z.Warmed39 U.vm ∧ U.heap = h0) (fun _ _ _ _ _ => True) (fun _ U o U' => ∃ v L, o = .returned v ∧ Q_rm19 Z a1 cc w h0 n0 v U'.heap L ∧ FrameEnd U o U' L ({ frames := 1, cells := 0, slots := 0, locals := 12 } : Room).cells ({ frames := 1, cells := 0, slots := 0, locals := 12 } : Room).slots) := by
  refine MetFree.of_bodySF (plainFor_of_name pn_0) hisR ?_
  intro p e s m args below meth c s₁ Bd hml0 hP hK
  obtain ⟨rfl, hZ, hh⟩ := hP
  have hx := Bd.exec
  have hby := Bd.bytes
  have hml : c.maxLocals = 1 := hml0
  have hown : s.vm.findClass "com/example/seqlint/seqlint/kafka/Batch" = some m.cls := findClass_of_methodNamed Bd.named
  have hnm := (name_of_methodNamed Bd.named Bd.method).1
  have X0 : Stand p l e ({ frames := 1, cells := 0, slots := 0, locals := 12 } : Room) s m #[(.ref a1)] below meth c s₁ [] 0 0 := Stand.of_body Bd
  have e0 : s₁.heap = h0 := by rw [← hh, Bd.state]; rfl
  have N0 := Fr.nil n0
  show Goes p e below s (Q_rm19 Z a1 cc w h0 n0) ({ frames := 1, cells := 0, slots := 0, locals := 12 } : Room).cells ({ frames := 1, cells := 0, slots := 0, locals := 12 } : Room).slots (s₁.setTop (entryFrame m #[(.ref a1)] 1))
  refine Goes.pre (fun t kt => castTop (ef_rm19 m a1) kt) ?_
  show Goes p e below s _ _ _ (s₁.setTop (mkF m 0 #[.val (.ref a1)] []))
  refine Goes.pre (fun t kt => XS.aloadN X0.here hx rfl (hb hby d19_0) rfl rfl kt) ?_
  show Goes p e below s _ _ _ (s₁.setTop (mkF m 1 #[.val (.ref a1)] [(.ref a1)]))
  obtain ⟨T1, X1, e1, st1⟩ := getF X0 hx hZ hown (host := "") (Or.inl (hw _ (List.mem_of_getElem? (i := 39) rfl))) Via.refl e0 pf_F_a1_com_example_seqlint_seqlint_kafka_Batch_firstTimestamp (g := (mkF m 1 #[.val (.ref a1)] [(.ref a1)])) rfl rfl (hb hby d19_1)
  refine Goes.pre st1 ?_
  show Goes p e below s _ _ _ (T1.setTop (mkF m 4 #[.val (.ref a1)] [(.long w)]))
  refine Goes.pre (fun t kt => XS.lconst X1.here hx rfl (hb hby d19_4) kt) ?_
  show Goes p e below s _ _ _ (T1.setTop (mkF m 5 #[.val (.ref a1)] [(.long (0 : Int64)), (.long w)]))
  refine Goes.pre (fun t kt => XS.lcmp X1.here hx rfl (hb hby d19_5) rfl kt) ?_
  show Goes p e below s _ _ _ (T1.setTop (mkF m 6 #[.val (.ref a1)] [(.int (lcmpW w (0 : Int64)))]))
  by_cases hc6 : w < (0 : Int64)
  · refine Goes.pre (fun t kt => XS.ifYes X1.here hx rfl (pc0 := 6) (pc' := 23) rfl (hb hby d19_6) rfl (Jvm.Free.XT.i0_lt_t ((lw_lt _ _).mpr hc6)) (by decide) (by decide) kt) ?_
    show Goes p e below s _ _ _ (T1.setTop (mkF m 23 #[.val (.ref a1)] []))
    refine Goes.pre (X1.ldc2Long hx hown (mvT hZ (hw _ (List.mem_of_getElem? (i := 34) rfl))) (g := (mkF m 23 #[.val (.ref a1)] [])) rfl (hb hby d19_23)) ?_
    show Goes p e below s _ _ _ (T1.setTop (mkF m 26 #[.val (.ref a1)] [(.long (-1 : Int64))]))
    refine Goes.ret X1 (some (.long (-1 : Int64))) (fun h => by rw [Bd.returns] at h; cases h) (BodyLoose.notSynchronized Bd) (by decide) (by decide) (fun fs hr => retOut X1 hx (t := .long) Bd.returns rfl (Or.inr (Or.inl ⟨rfl, rfl, _, rfl⟩)) (hb hby d19_26) hr) ?_
    show Q_rm19 Z a1 cc w h0 n0 _ T1.heap _
    rw [e1]
    exact ⟨(by simp [own_ts, hc6]), N0, rfl⟩
  · refine Goes.pre (fun t kt => XS.ifNo X1.here hx rfl (hb hby d19_6) rfl (Jvm.Free.XT.i0_lt_f ((not_congr (lw_lt _ _)).mpr hc6)) kt) ?_
    show Goes p e below s _ _ _ (T1.setTop (mkF m 9 #[.val (.ref a1)] []))
    refine Goes.pre (fun t kt => XS.aloadN X1.here hx rfl (hb hby d19_9) rfl rfl kt) ?_
    show Goes p e below s _ _ _ (T1.setTop (mkF m 10 #[.val (.ref a1)] [(.ref a1)]))
    obtain ⟨cq3, kq3, qa3, qb3, qc3⟩ := isOf hZ e1 pf_E_a1
    obtain ⟨_, _, ⟨T2, L2, k2, n2⟩, -, X2, ⟨Lc2, hQ2, l2, y2, z2⟩, st2⟩ := X1.virtualBack hx (y := (⟨"com/example/seqlint/seqlint/kafka/Batch", "isIntact", "()Z"⟩ : MethodName)) (z := (⟨"com/example/seqlint/seqlint/kafka/Batch", "isIntact", "()Z"⟩ : MethodName)) hown (mvT hZ (hw _ (List.mem_of_getElem? (i := 126) rfl))) (mvT hZ (hw _ (List.mem_of_getElem? (i := 127) rfl))) (notFace_of_selects (args := #[]) (mvT hZ (hw _ (List.mem_of_getElem? (i := 129) rfl)))) (mvT hZ (hw _ (List.mem_of_getElem? (i := 129) rfl))) (mvT hZ (hw _ (List.mem_of_getElem? (i := 128) rfl))) (by decide) (backOf (W := 0) (rm20 l Z a0 hw [] a1 cc h0 n0 Z0 pf_F_a1_com_example_seqlint_seqlint_kafka_Batch_computedCrc pf_F_a1_com_example_seqlint_seqlint_kafka_Batch_storedCrc) hZ (hw _ (List.mem_of_getElem? (i := 130) rfl)) (hw _ (List.mem_of_getElem? (i := 2) rfl)) (by decide) (by decide)) qa3 qc3 (g := (mkF m 10 #[.val (.ref a1)] [(.ref a1)])) rfl (by rw [hml]; rfl) (Steps.refl _) (argsL := []) (rest := []) (lenOf pd_2 rfl) rfl (by show 2 * 0 + _ ≤ _; exact Nat.le_of_eq rfl) (hb hby d19_10) (fun _ _ => ⟨rfl, e1, (by decide : 0 + 0 ≤ _), (by decide : 0 + 0 ≤ _)⟩)
    dsimp only [Pt.U, Pt.locs, Pt.cells, Pt.slots] at X2 l2 y2 z2 st2 hQ2
    subst l2 y2 z2
    obtain ⟨rfl, Nq2, eq2⟩ := hQ2
    refine Goes.run st2 ?_
    have N2 := Fr.app N0 Nq2
    show Goes p e below s _ _ _ (T2.setTop (mkF m 13 #[.val (.ref a1)] [(.int (1 : Int32))]))
    refine Goes.pre (fun t kt => XS.ifNo X2.here hx rfl (hb hby d19_13) rfl (Jvm.Free.XT.i0_eq_f ((by decide))) kt) ?_
    show Goes p e below s _ _ _ (T2.setTop (mkF m 16 #[.val (.ref a1)] []))
    refine Goes.pre (fun t kt => XS.aloadN X2.here hx rfl (hb hby d19_16) rfl rfl kt) ?_
    show Goes p e below s _ _ _ (T2.setTop (mkF m 17 #[.val (.ref a1)] [(.ref a1)]))
    obtain ⟨T4, X4, e4, st4⟩ := getF X2 hx hZ hown (host := "") (Or.inl (hw _ (List.mem_of_getElem? (i := 39) rfl))) Via.refl eq2 pf_F_a1_com_example_seqlint_seqlint_kafka_Batch_firstTimestamp (g := (mkF m 17 #[.val (.ref a1)] [(.ref a1)])) rfl rfl (hb hby d19_17)
    refine Goes.pre st4 ?_
    show Goes p e below s _ _ _ (T4.setTop (mkF m 20 #[.val (.ref a1)] [(.long w)]))
    refine Goes.pre (fun t kt => XS.goto X4.here hx rfl (pc0 := 20) (pc' := 26) rfl (hb hby d19_20) (by decide) (by decide) kt) ?_
    show Goes p e below s _ _ _ (T4.setTop (mkF m 26 #[.val (.ref a1)] [(.long w)]))
    refine Goes.ret X4 (some (.long w)) (fun h => by rw [Bd.returns] at h; cases h) (BodyLoose.notSynchronized Bd) (by decide) (by decide) (fun fs hr => retOut X4 hx (t := .long) Bd.returns rfl (Or.inr (Or.inl ⟨rfl, rfl, _, rfl⟩)) (hb hby d19_26) hr) ?_
    show Q_rm19 Z a1 cc w h0 n0 _ T4.heap _
    rw [e4]
    exact ⟨(by simp [own_ts, hc6]), N2, rfl⟩
theorem d21_0 : decode prog_49_method_25_code 0 = .ok (.aload_n 0, 1) := by decide +kernel
theorem d21_1 : decode prog_49_method_25_code 1 = .ok (.getfield 38, 3) := by decide +kernel
theorem d21_4 : decode prog_49_method_25_code 4 = .ok (.lconst 0, 1) := by decide +kernel
theorem d21_5 : decode prog_49_method_25_code 5 = .ok (.lcmp, 1) := by decide +kernel
theorem d21_6 : decode prog_49_method_25_code 6 = .ok (.ifCond .lt 17, 3) := by decide +kernel
theorem d21_23 : decode prog_49_method_25_code 23 = .ok (.ldc2_w 23, 3) := by decide +kernel
theorem d21_26 : decode prog_49_method_25_code 26 = .ok (.lreturn, 1) := by decide +kernel
theorem d21_9 : decode prog_49_method_25_code 9 = .ok (.aload_n 0, 1) := by decide +kernel
theorem d21_10 : decode prog_49_method_25_code 10 = .ok (.invokevirtual 86, 3) := by decide +kernel
theorem d21_13 : decode prog_49_method_25_code 13 = .ok (.ifCond .eq 10, 3) := by decide +kernel
theorem d21_16 : decode prog_49_method_25_code 16 = .ok (.aload_n 0, 1) := by decide +kernel
theorem d21_17 : decode prog_49_method_25_code 17 = .ok (.getfield 38, 3) := by decide +kernel
theorem d21_20 : decode prog_49_method_25_code 20 = .ok (.goto 6, 3) := by decide +kernel
def Q_rm21 (Z : State) (a1 : Addr) (cc : Int64) (w : Int64) (h0 : Heap) (n0 : Nat) (v : Option Value) (h : Heap) (L : List Loc) : Prop := v = some (.long (own_ts w)) ∧ Fr n0 L ∧ h = h0
theorem ef_rm21 (m : MethodId) (a1 : Addr) : entryFrame m #[(.ref a1)] 1 = mkF m 0 #[.val (.ref a1)] [] := by first | (simp [entryFrame, mkF, argsToLocals, Value.category]; done) | rfl
set_option maxRecDepth 65536 in
set_option maxHeartbeats 40000000 in
theorem rm21 (l : Launch) (Z : State) (a0 : Array Value) (hw : ∀ d ∈ tables_1, d.before a0 Z = true) (ws : List Jvm.Cond) (a1 : Addr) (cc : Int64) (w : Int64) (h0 : Heap) (n0 : Nat) (Z0 : n0 ≤ h0.size) (pf_E_a1 : Exa Z h0 a1 "com/example/seqlint/seqlint/kafka/Batch") (pf_F_a1_com_example_seqlint_seqlint_kafka_Batch_computedCrc : Fld Z h0 a1 "com/example/seqlint/seqlint/kafka/Batch" "computedCrc" "J" (.long cc)) (pf_F_a1_com_example_seqlint_seqlint_kafka_Batch_storedCrc : Fld Z h0 a1 "com/example/seqlint/seqlint/kafka/Batch" "storedCrc" "J" (.long cc)) (pf_F_a1_com_example_seqlint_seqlint_kafka_Batch_maxTimestamp : Fld Z h0 a1 "com/example/seqlint/seqlint/kafka/Batch" "maxTimestamp" "J" (.long w)) :
    MetFree l (⟨"com/example/seqlint/seqlint/kafka/Batch", "lastTimestamp", "()J"⟩ : MethodName) (head1 (Jvm.Cond.code (⟨"com/example/seqlint/seqlint/kafka/Batch", "lastTimestamp", "()J"⟩ : MethodName) prog_49_method_25_code 1 (some .long) :: ws) ({ frames := 1, cells := 0, slots := 0, locals := 12 } : Room)) (fun a U => a = #[(.ref a1)] ∧ Z.Warmed39 U.vm ∧ U.heap = h0) (fun _ _ _ _ _ => True) (fun _ U o U' => ∃ v L, o = .returned v ∧ Q_rm21 Z a1 cc w h0 n0 v U'.heap L ∧ FrameEnd U o U' L ({ frames := 1, cells := 0, slots := 0, locals := 12 } : Room).cells ({ frames := 1, cells := 0, slots := 0, locals := 12 } : Room).slots) := by
  refine MetFree.of_bodySF (plainFor_of_name pn_0) hisR ?_
  intro p e s m args below meth c s₁ Bd hml0 hP hK
  obtain ⟨rfl, hZ, hh⟩ := hP
  have hx := Bd.exec
  have hby := Bd.bytes
  have hml : c.maxLocals = 1 := hml0
  have hown : s.vm.findClass "com/example/seqlint/seqlint/kafka/Batch" = some m.cls := findClass_of_methodNamed Bd.named
  have hnm := (name_of_methodNamed Bd.named Bd.method).1
  have X0 : Stand p l e ({ frames := 1, cells := 0, slots := 0, locals := 12 } : Room) s m #[(.ref a1)] below meth c s₁ [] 0 0 := Stand.of_body Bd
  have e0 : s₁.heap = h0 := by rw [← hh, Bd.state]; rfl
  have N0 := Fr.nil n0
  show Goes p e below s (Q_rm21 Z a1 cc w h0 n0) ({ frames := 1, cells := 0, slots := 0, locals := 12 } : Room).cells ({ frames := 1, cells := 0, slots := 0, locals := 12 } : Room).slots (s₁.setTop (entryFrame m #[(.ref a1)] 1))
  refine Goes.pre (fun t kt => castTop (ef_rm21 m a1) kt) ?_
  show Goes p e below s _ _ _ (s₁.setTop (mkF m 0 #[.val (.ref a1)] []))
  refine Goes.pre (fun t kt => XS.aloadN X0.here hx rfl (hb hby d21_0) rfl rfl kt) ?_
  show Goes p e below s _ _ _ (s₁.setTop (mkF m 1 #[.val (.ref a1)] [(.ref a1)]))
  obtain ⟨T1, X1, e1, st1⟩ := getF X0 hx hZ hown (host := "") (Or.inl (hw _ (List.mem_of_getElem? (i := 41) rfl))) Via.refl e0 pf_F_a1_com_example_seqlint_seqlint_kafka_Batch_maxTimestamp (g := (mkF m 1 #[.val (.ref a1)] [(.ref a1)])) rfl rfl (hb hby d21_1)
  refine Goes.pre st1 ?_
  show Goes p e below s _ _ _ (T1.setTop (mkF m 4 #[.val (.ref a1)] [(.long w)]))
  refine Goes.pre (fun t kt => XS.lconst X1.here hx rfl (hb hby d21_4) kt) ?_
  show Goes p e below s _ _ _ (T1.setTop (mkF m 5 #[.val (.ref a1)] [(.long (0 : Int64)), (.long w)]))
  refine Goes.pre (fun t kt => XS.lcmp X1.here hx rfl (hb hby d21_5) rfl kt) ?_
  show Goes p e below s _ _ _ (T1.setTop (mkF m 6 #[.val (.ref a1)] [(.int (lcmpW w (0 : Int64)))]))
  by_cases hc6 : w < (0 : Int64)
  · refine Goes.pre (fun t kt => XS.ifYes X1.here hx rfl (pc0 := 6) (pc' := 23) rfl (hb hby d21_6) rfl (Jvm.Free.XT.i0_lt_t ((lw_lt _ _).mpr hc6)) (by decide) (by decide) kt) ?_
    show Goes p e below s _ _ _ (T1.setTop (mkF m 23 #[.val (.ref a1)] []))
    refine Goes.pre (X1.ldc2Long hx hown (mvT hZ (hw _ (List.mem_of_getElem? (i := 34) rfl))) (g := (mkF m 23 #[.val (.ref a1)] [])) rfl (hb hby d21_23)) ?_
    show Goes p e below s _ _ _ (T1.setTop (mkF m 26 #[.val (.ref a1)] [(.long (-1 : Int64))]))
    refine Goes.ret X1 (some (.long (-1 : Int64))) (fun h => by rw [Bd.returns] at h; cases h) (BodyLoose.notSynchronized Bd) (by decide) (by decide) (fun fs hr => retOut X1 hx (t := .long) Bd.returns rfl (Or.inr (Or.inl ⟨rfl, rfl, _, rfl⟩)) (hb hby d21_26) hr) ?_
    show Q_rm21 Z a1 cc w h0 n0 _ T1.heap _
    rw [e1]
    exact ⟨(by simp [own_ts, hc6]), N0, rfl⟩
  · refine Goes.pre (fun t kt => XS.ifNo X1.here hx rfl (hb hby d21_6) rfl (Jvm.Free.XT.i0_lt_f ((not_congr (lw_lt _ _)).mpr hc6)) kt) ?_
    show Goes p e below s _ _ _ (T1.setTop (mkF m 9 #[.val (.ref a1)] []))
    refine Goes.pre (fun t kt => XS.aloadN X1.here hx rfl (hb hby d21_9) rfl rfl kt) ?_
    show Goes p e below s _ _ _ (T1.setTop (mkF m 10 #[.val (.ref a1)] [(.ref a1)]))
    obtain ⟨cq3, kq3, qa3, qb3, qc3⟩ := isOf hZ e1 pf_E_a1
    obtain ⟨_, _, ⟨T2, L2, k2, n2⟩, -, X2, ⟨Lc2, hQ2, l2, y2, z2⟩, st2⟩ := X1.virtualBack hx (y := (⟨"com/example/seqlint/seqlint/kafka/Batch", "isIntact", "()Z"⟩ : MethodName)) (z := (⟨"com/example/seqlint/seqlint/kafka/Batch", "isIntact", "()Z"⟩ : MethodName)) hown (mvT hZ (hw _ (List.mem_of_getElem? (i := 126) rfl))) (mvT hZ (hw _ (List.mem_of_getElem? (i := 127) rfl))) (notFace_of_selects (args := #[]) (mvT hZ (hw _ (List.mem_of_getElem? (i := 129) rfl)))) (mvT hZ (hw _ (List.mem_of_getElem? (i := 129) rfl))) (mvT hZ (hw _ (List.mem_of_getElem? (i := 128) rfl))) (by decide) (backOf (W := 0) (rm20 l Z a0 hw [] a1 cc h0 n0 Z0 pf_F_a1_com_example_seqlint_seqlint_kafka_Batch_computedCrc pf_F_a1_com_example_seqlint_seqlint_kafka_Batch_storedCrc) hZ (hw _ (List.mem_of_getElem? (i := 130) rfl)) (hw _ (List.mem_of_getElem? (i := 2) rfl)) (by decide) (by decide)) qa3 qc3 (g := (mkF m 10 #[.val (.ref a1)] [(.ref a1)])) rfl (by rw [hml]; rfl) (Steps.refl _) (argsL := []) (rest := []) (lenOf pd_2 rfl) rfl (by show 2 * 0 + _ ≤ _; exact Nat.le_of_eq rfl) (hb hby d21_10) (fun _ _ => ⟨rfl, e1, (by decide : 0 + 0 ≤ _), (by decide : 0 + 0 ≤ _)⟩)
    dsimp only [Pt.U, Pt.locs, Pt.cells, Pt.slots] at X2 l2 y2 z2 st2 hQ2
    subst l2 y2 z2
    obtain ⟨rfl, Nq2, eq2⟩ := hQ2
    refine Goes.run st2 ?_
    have N2 := Fr.app N0 Nq2
    show Goes p e below s _ _ _ (T2.setTop (mkF m 13 #[.val (.ref a1)] [(.int (1 : Int32))]))
    refine Goes.pre (fun t kt => XS.ifNo X2.here hx rfl (hb hby d21_13) rfl (Jvm.Free.XT.i0_eq_f ((by decide))) kt) ?_
    show Goes p e below s _ _ _ (T2.setTop (mkF m 16 #[.val (.ref a1)] []))
    refine Goes.pre (fun t kt => XS.aloadN X2.here hx rfl (hb hby d21_16) rfl rfl kt) ?_
    show Goes p e below s _ _ _ (T2.setTop (mkF m 17 #[.val (.ref a1)] [(.ref a1)]))
    obtain ⟨T4, X4, e4, st4⟩ := getF X2 hx hZ hown (host := "") (Or.inl (hw _ (List.mem_of_getElem? (i := 41) rfl))) Via.refl eq2 pf_F_a1_com_example_seqlint_seqlint_kafka_Batch_maxTimestamp (g := (mkF m 17 #[.val (.ref a1)] [(.ref a1)])) rfl rfl (hb hby d21_17)
    refine Goes.pre st4 ?_
    show Goes p e below s _ _ _ (T4.setTop (mkF m 20 #[.val (.ref a1)] [(.long w)]))
    refine Goes.pre (fun t kt => XS.goto X4.here hx rfl (pc0 := 20) (pc' := 26) rfl (hb hby d21_20) (by decide) (by decide) kt) ?_
    show Goes p e below s _ _ _ (T4.setTop (mkF m 26 #[.val (.ref a1)] [(.long w)]))
    refine Goes.ret X4 (some (.long w)) (fun h => by rw [Bd.returns] at h; cases h) (BodyLoose.notSynchronized Bd) (by decide) (by decide) (fun fs hr => retOut X4 hx (t := .long) Bd.returns rfl (Or.inr (Or.inl ⟨rfl, rfl, _, rfl⟩)) (hb hby d21_26) hr) ?_
    show Q_rm21 Z a1 cc w h0 n0 _ T4.heap _
    rw [e4]
    exact ⟨(by simp [own_ts, hc6]), N2, rfl⟩
theorem pd_3 : parseMethodDescriptor "()V" = some ⟨[], none⟩ := by decide +kernel
theorem pd_4 : parseMethodDescriptor "(JLcom/example/seqlint/seqlint/kafka/Batch$Marker;)V" = some ⟨[.long, (.object "com/example/seqlint/seqlint/kafka/Batch$Marker")], none⟩ := by decide +kernel
theorem pd_5 : parseMethodDescriptor "(JJIJSIJJJSII)V" = some ⟨[.long, .long, .int, .long, .short, .int, .long, .long, .long, .short, .int, .int], none⟩ := by decide +kernel
theorem pd_6 : parseMethodDescriptor "()J" = some ⟨[], some .long⟩ := by decide +kernel
theorem pd_7 : parseMethodDescriptor "()I" = some ⟨[], some .int⟩ := by decide +kernel
theorem pd_8 : parseMethodDescriptor "()Lcom/example/seqlint/seqlint/kafka/Batch$Marker;" = some ⟨[], some (.object "com/example/seqlint/seqlint/kafka/Batch$Marker")⟩ := by decide +kernel
theorem pd_9 : parseMethodDescriptor "()S" = some ⟨[], some .short⟩ := by decide +kernel
theorem pn_10 : plainName "com/example/seqlint/seqlint/kafka/BatchSetPinLaw" = true := by first | (simp [plainName, overriddenIn]; done) | decide +kernel
def Q_rm0 (Z : State) (q1 : Int64) (q2 : Int64) (q3 : Int64) (p4 : Int32) (p5 : Int32) (p6 : Int32) (w1 : Addr) (h0 : Heap) (n0 : Nat) (v : Option Value) (h : Heap) (L : List Loc) : Prop := v = some (.int (1 : Int32)) ∧ Fr n0 L
theorem ef_rm0 (m : MethodId) (q1 : Int64) (q2 : Int64) (q3 : Int64) (p4 : Int32) (p5 : Int32) (p6 : Int32) : entryFrame m #[(.long q1), (.long q2), (.long q3), (.int p4), (.int p5), (.int p6)] maxLocals = mkF m 0 #[.val (.long q1), .second, .val (.long q2), .second, .val (.long q3), .second, .val (.int p4), .val (.int p5), .val (.int p6), .unset, .unset, .unset, .unset, .unset, .unset, .unset, .unset, .unset, .unset, .unset, .unset, .unset, .unset, .unset, .unset, .unset, .unset, .unset] [] := by first | (simp [entryFrame, mkF, argsToLocals, Value.category, maxLocals]; done) | rfl
set_option maxRecDepth 65536 in
set_option maxHeartbeats 40000000 in
theorem rm0 (l : Launch) (Z : State) (a0 : Array Value) (hw : ∀ d ∈ tables_1, d.before a0 Z = true) (ws : List Jvm.Cond) (q1 : Int64) (q2 : Int64) (q3 : Int64) (p4 : Int32) (p5 : Int32) (p6 : Int32) (w1 : Addr) (h0 : Heap) (n0 : Nat) (Z0 : n0 ≤ h0.size) (pf_S_com_example_seqlint_seqlint_kafka_Batch_Marker_COMMIT : Sta Z h0 "com/example/seqlint/seqlint/kafka/Batch$Marker" "COMMIT" "Lcom/example/seqlint/seqlint/kafka/Batch$Marker;" (.ref w1)) :
    MetFree l x (head1 (Jvm.Cond.code x code maxLocals ret :: ws) room_1) (fun a U => a = #[(.long q1), (.long q2), (.long q3), (.int p4), (.int p5), (.int p6)] ∧ Z.Warmed39 U.vm ∧ U.heap = h0) (fun _ _ _ _ _ => True) (fun _ U o U' => ∃ v L, o = .returned v ∧ Q_rm0 Z q1 q2 q3 p4 p5 p6 w1 h0 n0 v U'.heap L ∧ FrameEnd U o U' L room_1.cells room_1.slots) := by
  refine MetFree.of_bodySF (plainFor_of_name pn_10) hisR ?_
  intro p e s m args below meth c s₁ Bd hml0 hP hK
  obtain ⟨rfl, hZ, hh⟩ := hP
  have hx := Bd.exec
  have hby := Bd.bytes
  have hml : c.maxLocals = 28 := hml0
  have hown : s.vm.findClass "com/example/seqlint/seqlint/kafka/BatchSetPinLaw" = some m.cls := findClass_of_methodNamed Bd.named
  have hnm := (name_of_methodNamed Bd.named Bd.method).1
  have X0 : Stand p l e room_1 s m #[(.long q1), (.long q2), (.long q3), (.int p4), (.int p5), (.int p6)] below meth c s₁ [] 0 0 := Stand.of_body Bd
  have e0 : s₁.heap = h0 := by rw [← hh, Bd.state]; rfl
  have N0 := Fr.nil n0
  show Goes p e below s (Q_rm0 Z q1 q2 q3 p4 p5 p6 w1 h0 n0) room_1.cells room_1.slots (s₁.setTop (entryFrame m #[(.long q1), (.long q2), (.long q3), (.int p4), (.int p5), (.int p6)] maxLocals))
  refine Goes.pre (fun t kt => castTop (ef_rm0 m q1 q2 q3 p4 p5 p6) kt) ?_
  show Goes p e below s _ _ _ (s₁.setTop (mkF m 0 #[.val (.long q1), .second, .val (.long q2), .second, .val (.long q3), .second, .val (.int p4), .val (.int p5), .val (.int p6), .unset, .unset, .unset, .unset, .unset, .unset, .unset, .unset, .unset, .unset, .unset, .unset, .unset, .unset, .unset, .unset, .unset, .unset, .unset] []))
  refine Goes.pre (fun t kt => XS.iload X0.here hx rfl (hb hby at_0) rfl kt) ?_
  show Goes p e below s _ _ _ (s₁.setTop (mkF m 2 #[.val (.long q1), .second, .val (.long q2), .second, .val (.long q3), .second, .val (.int p4), .val (.int p5), .val (.int p6), .unset, .unset, .unset, .unset, .unset, .unset, .unset, .unset, .unset, .unset, .unset, .unset, .unset, .unset, .unset, .unset, .unset, .unset, .unset] [(.int p5)]))
  refine Goes.pre (fun t kt => XS.i2s X0.here hx rfl (hb hby at_2) rfl kt) ?_
  show Goes p e below s _ _ _ (s₁.setTop (mkF m 3 #[.val (.long q1), .second, .val (.long q2), .second, .val (.long q3), .second, .val (.int p4), .val (.int p5), .val (.int p6), .unset, .unset, .unset, .unset, .unset, .unset, .unset, .unset, .unset, .unset, .unset, .unset, .unset, .unset, .unset, .unset, .unset, .unset, .unset] [(.int (p5.toInt16.toInt32))]))
  refine Goes.pre (fun t kt => XS.istore X0.here hx rfl (hb hby at_3) rfl (l' := #[.val (.long q1), .second, .val (.long q2), .second, .val (.long q3), .second, .val (.int p4), .val (.int p5), .val (.int p6), .val (.int (p5.toInt16.toInt32)), .unset, .unset, .unset, .unset, .unset, .unset, .unset, .unset, .unset, .unset, .unset, .unset, .unset, .unset, .unset, .unset, .unset, .unset]) rfl kt) ?_
  show Goes p e below s _ _ _ (s₁.setTop (mkF m 5 #[.val (.long q1), .second, .val (.long q2), .second, .val (.long q3), .second, .val (.int p4), .val (.int p5), .val (.int p6), .val (.int (p5.toInt16.toInt32)), .unset, .unset, .unset, .unset, .unset, .unset, .unset, .unset, .unset, .unset, .unset, .unset, .unset, .unset, .unset, .unset, .unset, .unset] []))
  refine Goes.pre (fun t kt => XS.iload X0.here hx rfl (hb hby at_5) rfl kt) ?_
  show Goes p e below s _ _ _ (s₁.setTop (mkF m 7 #[.val (.long q1), .second, .val (.long q2), .second, .val (.long q3), .second, .val (.int p4), .val (.int p5), .val (.int p6), .val (.int (p5.toInt16.toInt32)), .unset, .unset, .unset, .unset, .unset, .unset, .unset, .unset, .unset, .unset, .unset, .unset, .unset, .unset, .unset, .unset, .unset, .unset] [(.int p5)]))
  refine Goes.pre (fun t kt => XS.bipush X0.here hx rfl (hb hby at_7) kt) ?_
  show Goes p e below s _ _ _ (s₁.setTop (mkF m 9 #[.val (.long q1), .second, .val (.long q2), .second, .val (.long q3), .second, .val (.int p4), .val (.int p5), .val (.int p6), .val (.int (p5.toInt16.toInt32)), .unset, .unset, .unset, .unset, .unset, .unset, .unset, .unset, .unset, .unset, .unset, .unset, .unset, .unset, .unset, .unset, .unset, .unset] [(.int (16 : Int32)), (.int p5)]))
  refine Goes.pre (fun t kt => XS.iushr X0.here hx rfl (hb hby at_9) rfl kt) ?_
  show Goes p e below s _ _ _ (s₁.setTop (mkF m 10 #[.val (.long q1), .second, .val (.long q2), .second, .val (.long q3), .second, .val (.int p4), .val (.int p5), .val (.int p6), .val (.int (p5.toInt16.toInt32)), .unset, .unset, .unset, .unset, .unset, .unset, .unset, .unset, .unset, .unset, .unset, .unset, .unset, .unset, .unset, .unset, .unset, .unset] [(.int ((p5.toUInt32 >>> ((16 : Int32) &&& 31).toUInt32).toInt32))]))
  refine Goes.pre (fun t kt => XS.i2s X0.here hx rfl (hb hby at_10) rfl kt) ?_
  show Goes p e below s _ _ _ (s₁.setTop (mkF m 11 #[.val (.long q1), .second, .val (.long q2), .second, .val (.long q3), .second, .val (.int p4), .val (.int p5), .val (.int p6), .val (.int (p5.toInt16.toInt32)), .unset, .unset, .unset, .unset, .unset, .unset, .unset, .unset, .unset, .unset, .unset, .unset, .unset, .unset, .unset, .unset, .unset, .unset] [(.int (((p5.toUInt32 >>> ((16 : Int32) &&& 31).toUInt32).toInt32).toInt16.toInt32))]))
  refine Goes.pre (fun t kt => XS.istore X0.here hx rfl (hb hby at_11) rfl (l' := #[.val (.long q1), .second, .val (.long q2), .second, .val (.long q3), .second, .val (.int p4), .val (.int p5), .val (.int p6), .val (.int (p5.toInt16.toInt32)), .val (.int (((p5.toUInt32 >>> ((16 : Int32) &&& 31).toUInt32).toInt32).toInt16.toInt32)), .unset, .unset, .unset, .unset, .unset, .unset, .unset, .unset, .unset, .unset, .unset, .unset, .unset, .unset, .unset, .unset, .unset]) rfl kt) ?_
  show Goes p e below s _ _ _ (s₁.setTop (mkF m 13 #[.val (.long q1), .second, .val (.long q2), .second, .val (.long q3), .second, .val (.int p4), .val (.int p5), .val (.int p6), .val (.int (p5.toInt16.toInt32)), .val (.int (((p5.toUInt32 >>> ((16 : Int32) &&& 31).toUInt32).toInt32).toInt16.toInt32)), .unset, .unset, .unset, .unset, .unset, .unset, .unset, .unset, .unset, .unset, .unset, .unset, .unset, .unset, .unset, .unset, .unset] []))
  refine Goes.pre (fun t kt => XS.lloadN X0.here hx rfl (hb hby at_13) rfl kt) ?_
  show Goes p e below s _ _ _ (s₁.setTop (mkF m 14 #[.val (.long q1), .second, .val (.long q2), .second, .val (.long q3), .second, .val (.int p4), .val (.int p5), .val (.int p6), .val (.int (p5.toInt16.toInt32)), .val (.int (((p5.toUInt32 >>> ((16 : Int32) &&& 31).toUInt32).toInt32).toInt16.toInt32)), .unset, .unset, .unset, .unset, .unset, .unset, .unset, .unset, .unset, .unset, .unset, .unset, .unset, .unset, .unset, .unset, .unset] [(.long q1)]))
  refine Goes.pre (fun t kt => XS.lloadN X0.here hx rfl (hb hby at_14) rfl kt) ?_
  show Goes p e below s _ _ _ (s₁.setTop (mkF m 15 #[.val (.long q1), .second, .val (.long q2), .second, .val (.long q3), .second, .val (.int p4), .val (.int p5), .val (.int p6), .val (.int (p5.toInt16.toInt32)), .val (.int (((p5.toUInt32 >>> ((16 : Int32) &&& 31).toUInt32).toInt32).toInt16.toInt32)), .unset, .unset, .unset, .unset, .unset, .unset, .unset, .unset, .unset, .unset, .unset, .unset, .unset, .unset, .unset, .unset, .unset] [(.long q2), (.long q1)]))
  refine Goes.pre (fun t kt => XS.lsub X0.here hx rfl (hb hby at_15) rfl kt) ?_
  show Goes p e below s _ _ _ (s₁.setTop (mkF m 16 #[.val (.long q1), .second, .val (.long q2), .second, .val (.long q3), .second, .val (.int p4), .val (.int p5), .val (.int p6), .val (.int (p5.toInt16.toInt32)), .val (.int (((p5.toUInt32 >>> ((16 : Int32) &&& 31).toUInt32).toInt32).toInt16.toInt32)), .unset, .unset, .unset, .unset, .unset, .unset, .unset, .unset, .unset, .unset, .unset, .unset, .unset, .unset, .unset, .unset, .unset] [(.long (q1 - q2))]))
  refine Goes.pre (fun t kt => XS.lstore X0.here hx rfl (hb hby at_16) rfl (l' := #[.val (.long q1), .second, .val (.long q2), .second, .val (.long q3), .second, .val (.int p4), .val (.int p5), .val (.int p6), .val (.int (p5.toInt16.toInt32)), .val (.int (((p5.toUInt32 >>> ((16 : Int32) &&& 31).toUInt32).toInt32).toInt16.toInt32)), .val (.long (q1 - q2)), .second, .unset, .unset, .unset, .unset, .unset, .unset, .unset, .unset, .unset, .unset, .unset, .unset, .unset, .unset, .unset]) rfl kt) ?_
  show Goes p e below s _ _ _ (s₁.setTop (mkF m 18 #[.val (.long q1), .second, .val (.long q2), .second, .val (.long q3), .second, .val (.int p4), .val (.int p5), .val (.int p6), .val (.int (p5.toInt16.toInt32)), .val (.int (((p5.toUInt32 >>> ((16 : Int32) &&& 31).toUInt32).toInt32).toInt16.toInt32)), .val (.long (q1 - q2)), .second, .unset, .unset, .unset, .unset, .unset, .unset, .unset, .unset, .unset, .unset, .unset, .unset, .unset, .unset, .unset] []))
  refine Goes.pre (fun t kt => XS.lload X0.here hx rfl (hb hby at_18) rfl kt) ?_
  show Goes p e below s _ _ _ (s₁.setTop (mkF m 20 #[.val (.long q1), .second, .val (.long q2), .second, .val (.long q3), .second, .val (.int p4), .val (.int p5), .val (.int p6), .val (.int (p5.toInt16.toInt32)), .val (.int (((p5.toUInt32 >>> ((16 : Int32) &&& 31).toUInt32).toInt32).toInt16.toInt32)), .val (.long (q1 - q2)), .second, .unset, .unset, .unset, .unset, .unset, .unset, .unset, .unset, .unset, .unset, .unset, .unset, .unset, .unset, .unset] [(.long q3)]))
  refine Goes.pre (fun t kt => XS.lloadN X0.here hx rfl (hb hby at_20) rfl kt) ?_
  show Goes p e below s _ _ _ (s₁.setTop (mkF m 21 #[.val (.long q1), .second, .val (.long q2), .second, .val (.long q3), .second, .val (.int p4), .val (.int p5), .val (.int p6), .val (.int (p5.toInt16.toInt32)), .val (.int (((p5.toUInt32 >>> ((16 : Int32) &&& 31).toUInt32).toInt32).toInt16.toInt32)), .val (.long (q1 - q2)), .second, .unset, .unset, .unset, .unset, .unset, .unset, .unset, .unset, .unset, .unset, .unset, .unset, .unset, .unset, .unset] [(.long q1), (.long q3)]))
  refine Goes.pre (fun t kt => XS.lsub X0.here hx rfl (hb hby at_21) rfl kt) ?_
  show Goes p e below s _ _ _ (s₁.setTop (mkF m 22 #[.val (.long q1), .second, .val (.long q2), .second, .val (.long q3), .second, .val (.int p4), .val (.int p5), .val (.int p6), .val (.int (p5.toInt16.toInt32)), .val (.int (((p5.toUInt32 >>> ((16 : Int32) &&& 31).toUInt32).toInt32).toInt16.toInt32)), .val (.long (q1 - q2)), .second, .unset, .unset, .unset, .unset, .unset, .unset, .unset, .unset, .unset, .unset, .unset, .unset, .unset, .unset, .unset] [(.long (q3 - q1))]))
  refine Goes.pre (fun t kt => XS.lstore X0.here hx rfl (hb hby at_22) rfl (l' := #[.val (.long q1), .second, .val (.long q2), .second, .val (.long q3), .second, .val (.int p4), .val (.int p5), .val (.int p6), .val (.int (p5.toInt16.toInt32)), .val (.int (((p5.toUInt32 >>> ((16 : Int32) &&& 31).toUInt32).toInt32).toInt16.toInt32)), .val (.long (q1 - q2)), .second, .val (.long (q3 - q1)), .second, .unset, .unset, .unset, .unset, .unset, .unset, .unset, .unset, .unset, .unset, .unset, .unset, .unset]) rfl kt) ?_
  show Goes p e below s _ _ _ (s₁.setTop (mkF m 24 #[.val (.long q1), .second, .val (.long q2), .second, .val (.long q3), .second, .val (.int p4), .val (.int p5), .val (.int p6), .val (.int (p5.toInt16.toInt32)), .val (.int (((p5.toUInt32 >>> ((16 : Int32) &&& 31).toUInt32).toInt32).toInt16.toInt32)), .val (.long (q1 - q2)), .second, .val (.long (q3 - q1)), .second, .unset, .unset, .unset, .unset, .unset, .unset, .unset, .unset, .unset, .unset, .unset, .unset, .unset] []))
  refine Goes.pre (fun t kt => XS.lloadN X0.here hx rfl (hb hby at_24) rfl kt) ?_
  show Goes p e below s _ _ _ (s₁.setTop (mkF m 25 #[.val (.long q1), .second, .val (.long q2), .second, .val (.long q3), .second, .val (.int p4), .val (.int p5), .val (.int p6), .val (.int (p5.toInt16.toInt32)), .val (.int (((p5.toUInt32 >>> ((16 : Int32) &&& 31).toUInt32).toInt32).toInt16.toInt32)), .val (.long (q1 - q2)), .second, .val (.long (q3 - q1)), .second, .unset, .unset, .unset, .unset, .unset, .unset, .unset, .unset, .unset, .unset, .unset, .unset, .unset] [(.long q2)]))
  refine Goes.pre (fun t kt => XS.lload X0.here hx rfl (hb hby at_25) rfl kt) ?_
  show Goes p e below s _ _ _ (s₁.setTop (mkF m 27 #[.val (.long q1), .second, .val (.long q2), .second, .val (.long q3), .second, .val (.int p4), .val (.int p5), .val (.int p6), .val (.int (p5.toInt16.toInt32)), .val (.int (((p5.toUInt32 >>> ((16 : Int32) &&& 31).toUInt32).toInt32).toInt16.toInt32)), .val (.long (q1 - q2)), .second, .val (.long (q3 - q1)), .second, .unset, .unset, .unset, .unset, .unset, .unset, .unset, .unset, .unset, .unset, .unset, .unset, .unset] [(.long q3), (.long q2)]))
  refine Goes.pre (fun t kt => XS.lxor X0.here hx rfl (hb hby at_27) rfl kt) ?_
  show Goes p e below s _ _ _ (s₁.setTop (mkF m 28 #[.val (.long q1), .second, .val (.long q2), .second, .val (.long q3), .second, .val (.int p4), .val (.int p5), .val (.int p6), .val (.int (p5.toInt16.toInt32)), .val (.int (((p5.toUInt32 >>> ((16 : Int32) &&& 31).toUInt32).toInt32).toInt16.toInt32)), .val (.long (q1 - q2)), .second, .val (.long (q3 - q1)), .second, .unset, .unset, .unset, .unset, .unset, .unset, .unset, .unset, .unset, .unset, .unset, .unset, .unset] [(.long (q2 ^^^ q3))]))
  refine Goes.pre (fun t kt => XS.lstore X0.here hx rfl (hb hby at_28) rfl (l' := #[.val (.long q1), .second, .val (.long q2), .second, .val (.long q3), .second, .val (.int p4), .val (.int p5), .val (.int p6), .val (.int (p5.toInt16.toInt32)), .val (.int (((p5.toUInt32 >>> ((16 : Int32) &&& 31).toUInt32).toInt32).toInt16.toInt32)), .val (.long (q1 - q2)), .second, .val (.long (q3 - q1)), .second, .val (.long (q2 ^^^ q3)), .second, .unset, .unset, .unset, .unset, .unset, .unset, .unset, .unset, .unset, .unset, .unset]) rfl kt) ?_
  show Goes p e below s _ _ _ (s₁.setTop (mkF m 30 #[.val (.long q1), .second, .val (.long q2), .second, .val (.long q3), .second, .val (.int p4), .val (.int p5), .val (.int p6), .val (.int (p5.toInt16.toInt32)), .val (.int (((p5.toUInt32 >>> ((16 : Int32) &&& 31).toUInt32).toInt32).toInt16.toInt32)), .val (.long (q1 - q2)), .second, .val (.long (q3 - q1)), .second, .val (.long (q2 ^^^ q3)), .second, .unset, .unset, .unset, .unset, .unset, .unset, .unset, .unset, .unset, .unset, .unset] []))
  refine Goes.pre (fun t kt => XS.iload X0.here hx rfl (hb hby at_30) rfl kt) ?_
  show Goes p e below s _ _ _ (s₁.setTop (mkF m 32 #[.val (.long q1), .second, .val (.long q2), .second, .val (.long q3), .second, .val (.int p4), .val (.int p5), .val (.int p6), .val (.int (p5.toInt16.toInt32)), .val (.int (((p5.toUInt32 >>> ((16 : Int32) &&& 31).toUInt32).toInt32).toInt16.toInt32)), .val (.long (q1 - q2)), .second, .val (.long (q3 - q1)), .second, .val (.long (q2 ^^^ q3)), .second, .unset, .unset, .unset, .unset, .unset, .unset, .unset, .unset, .unset, .unset, .unset] [(.int p4)]))
  refine Goes.pre (fun t kt => XS.iload X0.here hx rfl (hb hby at_32) rfl kt) ?_
  show Goes p e below s _ _ _ (s₁.setTop (mkF m 34 #[.val (.long q1), .second, .val (.long q2), .second, .val (.long q3), .second, .val (.int p4), .val (.int p5), .val (.int p6), .val (.int (p5.toInt16.toInt32)), .val (.int (((p5.toUInt32 >>> ((16 : Int32) &&& 31).toUInt32).toInt32).toInt16.toInt32)), .val (.long (q1 - q2)), .second, .val (.long (q3 - q1)), .second, .val (.long (q2 ^^^ q3)), .second, .unset, .unset, .unset, .unset, .unset, .unset, .unset, .unset, .unset, .unset, .unset] [(.int p6), (.int p4)]))
  refine Goes.pre (fun t kt => XS.ixor X0.here hx rfl (hb hby at_34) rfl kt) ?_
  show Goes p e below s _ _ _ (s₁.setTop (mkF m 35 #[.val (.long q1), .second, .val (.long q2), .second, .val (.long q3), .second, .val (.int p4), .val (.int p5), .val (.int p6), .val (.int (p5.toInt16.toInt32)), .val (.int (((p5.toUInt32 >>> ((16 : Int32) &&& 31).toUInt32).toInt32).toInt16.toInt32)), .val (.long (q1 - q2)), .second, .val (.long (q3 - q1)), .second, .val (.long (q2 ^^^ q3)), .second, .unset, .unset, .unset, .unset, .unset, .unset, .unset, .unset, .unset, .unset, .unset] [(.int (p4 ^^^ p6))]))
  refine Goes.pre (fun t kt => XS.istore X0.here hx rfl (hb hby at_35) rfl (l' := #[.val (.long q1), .second, .val (.long q2), .second, .val (.long q3), .second, .val (.int p4), .val (.int p5), .val (.int p6), .val (.int (p5.toInt16.toInt32)), .val (.int (((p5.toUInt32 >>> ((16 : Int32) &&& 31).toUInt32).toInt32).toInt16.toInt32)), .val (.long (q1 - q2)), .second, .val (.long (q3 - q1)), .second, .val (.long (q2 ^^^ q3)), .second, .val (.int (p4 ^^^ p6)), .unset, .unset, .unset, .unset, .unset, .unset, .unset, .unset, .unset, .unset]) rfl kt) ?_
  show Goes p e below s _ _ _ (s₁.setTop (mkF m 37 #[.val (.long q1), .second, .val (.long q2), .second, .val (.long q3), .second, .val (.int p4), .val (.int p5), .val (.int p6), .val (.int (p5.toInt16.toInt32)), .val (.int (((p5.toUInt32 >>> ((16 : Int32) &&& 31).toUInt32).toInt32).toInt16.toInt32)), .val (.long (q1 - q2)), .second, .val (.long (q3 - q1)), .second, .val (.long (q2 ^^^ q3)), .second, .val (.int (p4 ^^^ p6)), .unset, .unset, .unset, .unset, .unset, .unset, .unset, .unset, .unset, .unset] []))
  refine Goes.pre (fun t kt => XS.iload X0.here hx rfl (hb hby at_37) rfl kt) ?_
  show Goes p e below s _ _ _ (s₁.setTop (mkF m 39 #[.val (.long q1), .second, .val (.long q2), .second, .val (.long q3), .second, .val (.int p4), .val (.int p5), .val (.int p6), .val (.int (p5.toInt16.toInt32)), .val (.int (((p5.toUInt32 >>> ((16 : Int32) &&& 31).toUInt32).toInt32).toInt16.toInt32)), .val (.long (q1 - q2)), .second, .val (.long (q3 - q1)), .second, .val (.long (q2 ^^^ q3)), .second, .val (.int (p4 ^^^ p6)), .unset, .unset, .unset, .unset, .unset, .unset, .unset, .unset, .unset, .unset] [(.int p5)]))
  refine Goes.pre (fun t kt => XS.iload X0.here hx rfl (hb hby at_39) rfl kt) ?_
  show Goes p e below s _ _ _ (s₁.setTop (mkF m 41 #[.val (.long q1), .second, .val (.long q2), .second, .val (.long q3), .second, .val (.int p4), .val (.int p5), .val (.int p6), .val (.int (p5.toInt16.toInt32)), .val (.int (((p5.toUInt32 >>> ((16 : Int32) &&& 31).toUInt32).toInt32).toInt16.toInt32)), .val (.long (q1 - q2)), .second, .val (.long (q3 - q1)), .second, .val (.long (q2 ^^^ q3)), .second, .val (.int (p4 ^^^ p6)), .unset, .unset, .unset, .unset, .unset, .unset, .unset, .unset, .unset, .unset] [(.int p6), (.int p5)]))
  refine Goes.pre (fun t kt => XS.iadd X0.here hx rfl (hb hby at_41) rfl kt) ?_
  show Goes p e below s _ _ _ (s₁.setTop (mkF m 42 #[.val (.long q1), .second, .val (.long q2), .second, .val (.long q3), .second, .val (.int p4), .val (.int p5), .val (.int p6), .val (.int (p5.toInt16.toInt32)), .val (.int (((p5.toUInt32 >>> ((16 : Int32) &&& 31).toUInt32).toInt32).toInt16.toInt32)), .val (.long (q1 - q2)), .second, .val (.long (q3 - q1)), .second, .val (.long (q2 ^^^ q3)), .second, .val (.int (p4 ^^^ p6)), .unset, .unset, .unset, .unset, .unset, .unset, .unset, .unset, .unset, .unset] [(.int (p5 + p6))]))
  refine Goes.pre (fun t kt => XS.istore X0.here hx rfl (hb hby at_42) rfl (l' := #[.val (.long q1), .second, .val (.long q2), .second, .val (.long q3), .second, .val (.int p4), .val (.int p5), .val (.int p6), .val (.int (p5.toInt16.toInt32)), .val (.int (((p5.toUInt32 >>> ((16 : Int32) &&& 31).toUInt32).toInt32).toInt16.toInt32)), .val (.long (q1 - q2)), .second, .val (.long (q3 - q1)), .second, .val (.long (q2 ^^^ q3)), .second, .val (.int (p4 ^^^ p6)), .val (.int (p5 + p6)), .unset, .unset, .unset, .unset, .unset, .unset, .unset, .unset, .unset]) rfl kt) ?_
  show Goes p e below s _ _ _ (s₁.setTop (mkF m 44 #[.val (.long q1), .second, .val (.long q2), .second, .val (.long q3), .second, .val (.int p4), .val (.int p5), .val (.int p6), .val (.int (p5.toInt16.toInt32)), .val (.int (((p5.toUInt32 >>> ((16 : Int32) &&& 31).toUInt32).toInt32).toInt16.toInt32)), .val (.long (q1 - q2)), .second, .val (.long (q3 - q1)), .second, .val (.long (q2 ^^^ q3)), .second, .val (.int (p4 ^^^ p6)), .val (.int (p5 + p6)), .unset, .unset, .unset, .unset, .unset, .unset, .unset, .unset, .unset] []))
  obtain ⟨T1, h1, X1, e1, E1, A1, D1, U1, st1⟩ := newO X0 hx hZ hown (hw _ (List.mem_of_getElem? (i := 0) rfl)) (hw _ (List.mem_of_getElem? (i := 1) rfl)) (hw _ (List.mem_of_getElem? (i := 2) rfl)) e0 (g := (mkF m 44 #[.val (.long q1), .second, .val (.long q2), .second, .val (.long q3), .second, .val (.int p4), .val (.int p5), .val (.int p6), .val (.int (p5.toInt16.toInt32)), .val (.int (((p5.toUInt32 >>> ((16 : Int32) &&& 31).toUInt32).toInt32).toInt16.toInt32)), .val (.long (q1 - q2)), .second, .val (.long (q3 - q1)), .second, .val (.long (q2 ^^^ q3)), .second, .val (.int (p4 ^^^ p6)), .val (.int (p5 + p6)), .unset, .unset, .unset, .unset, .unset, .unset, .unset, .unset, .unset] [])) rfl (hb hby at_44) (by decide) (by decide)
  obtain ⟨b1, g1⟩ : ∃ z, z = h0.size := ⟨_, rfl⟩
  rw [← g1] at A1 D1 U1 st1
  have gg1 : n0 ≤ b1 := Nat.le_trans Z0 (Nat.le_of_eq g1.symm)
  have Z1 : n0 ≤ h1.size := Nat.le_trans Z0 E1.1
  refine Goes.pre st1 ?_
  have Fn1_18 : Fld Z h1 b1 "com/example/seqlint/seqlint/kafka/Batch" "computedCrc" "J" (.long (0 : Int64)) := D1 (Or.inl (hw _ (List.mem_of_getElem? (i := 18) rfl))) (ty := .long) (by decide)
  have Fn1_20 : Fld Z h1 b1 "com/example/seqlint/seqlint/kafka/Batch" "marker" "Lcom/example/seqlint/seqlint/kafka/Batch$Marker;" .null := D1 (Or.inl (hw _ (List.mem_of_getElem? (i := 20) rfl))) (ty := (.object "com/example/seqlint/seqlint/kafka/Batch$Marker")) (by decide)
  have Fn1_27 : Fld Z h1 b1 "com/example/seqlint/seqlint/kafka/Batch" "position" "J" (.long (0 : Int64)) := D1 (Or.inl (hw _ (List.mem_of_getElem? (i := 27) rfl))) (ty := .long) (by decide)
  have Fn1_29 : Fld Z h1 b1 "com/example/seqlint/seqlint/kafka/Batch" "baseOffset" "J" (.long (0 : Int64)) := D1 (Or.inl (hw _ (List.mem_of_getElem? (i := 29) rfl))) (ty := .long) (by decide)
  have Fn1_31 : Fld Z h1 b1 "com/example/seqlint/seqlint/kafka/Batch" "leaderEpoch" "I" (.int (0 : Int32)) := D1 (Or.inl (hw _ (List.mem_of_getElem? (i := 31) rfl))) (ty := .int) (by decide)
  have Fn1_33 : Fld Z h1 b1 "com/example/seqlint/seqlint/kafka/Batch" "storedCrc" "J" (.long (0 : Int64)) := D1 (Or.inl (hw _ (List.mem_of_getElem? (i := 33) rfl))) (ty := .long) (by decide)
  have Fn1_36 : Fld Z h1 b1 "com/example/seqlint/seqlint/kafka/Batch" "attributes" "S" (.int (0 : Int32)) := D1 (Or.inl (hw _ (List.mem_of_getElem? (i := 36) rfl))) (ty := .short) (by decide)
  have Fn1_38 : Fld Z h1 b1 "com/example/seqlint/seqlint/kafka/Batch" "lastOffsetDelta" "I" (.int (0 : Int32)) := D1 (Or.inl (hw _ (List.mem_of_getElem? (i := 38) rfl))) (ty := .int) (by decide)
  have Fn1_40 : Fld Z h1 b1 "com/example/seqlint/seqlint/kafka/Batch" "firstTimestamp" "J" (.long (0 : Int64)) := D1 (Or.inl (hw _ (List.mem_of_getElem? (i := 40) rfl))) (ty := .long) (by decide)
  have Fn1_42 : Fld Z h1 b1 "com/example/seqlint/seqlint/kafka/Batch" "maxTimestamp" "J" (.long (0 : Int64)) := D1 (Or.inl (hw _ (List.mem_of_getElem? (i := 42) rfl))) (ty := .long) (by decide)
  have Fn1_44 : Fld Z h1 b1 "com/example/seqlint/seqlint/kafka/Batch" "producerId" "J" (.long (0 : Int64)) := D1 (Or.inl (hw _ (List.mem_of_getElem? (i := 44) rfl))) (ty := .long) (by decide)
  have Fn1_46 : Fld Z h1 b1 "com/example/seqlint/seqlint/kafka/Batch" "producerEpoch" "S" (.int (0 : Int32)) := D1 (Or.inl (hw _ (List.mem_of_getElem? (i := 46) rfl))) (ty := .short) (by decide)
  have Fn1_48 : Fld Z h1 b1 "com/example/seqlint/seqlint/kafka/Batch" "baseSequence" "I" (.int (0 : Int32)) := D1 (Or.inl (hw _ (List.mem_of_getElem? (i := 48) rfl))) (ty := .int) (by decide)
  have Fn1_50 : Fld Z h1 b1 "com/example/seqlint/seqlint/kafka/Batch" "recordCount" "I" (.int (0 : Int32)) := D1 (Or.inl (hw _ (List.mem_of_getElem? (i := 50) rfl))) (ty := .int) (by decide)
  show Goes p e below s _ _ _ (T1.setTop (mkF m 47 #[.val (.long q1), .second, .val (.long q2), .second, .val (.long q3), .second, .val (.int p4), .val (.int p5), .val (.int p6), .val (.int (p5.toInt16.toInt32)), .val (.int (((p5.toUInt32 >>> ((16 : Int32) &&& 31).toUInt32).toInt32).toInt16.toInt32)), .val (.long (q1 - q2)), .second, .val (.long (q3 - q1)), .second, .val (.long (q2 ^^^ q3)), .second, .val (.int (p4 ^^^ p6)), .val (.int (p5 + p6)), .unset, .unset, .unset, .unset, .unset, .unset, .unset, .unset, .unset] [(.ref b1)]))
  refine Goes.pre (fun t kt => XS.dup X1.here hx rfl (hb hby at_47) rfl rfl kt) ?_
  show Goes p e below s _ _ _ (T1.setTop (mkF m 48 #[.val (.long q1), .second, .val (.long q2), .second, .val (.long q3), .second, .val (.int p4), .val (.int p5), .val (.int p6), .val (.int (p5.toInt16.toInt32)), .val (.int (((p5.toUInt32 >>> ((16 : Int32) &&& 31).toUInt32).toInt32).toInt16.toInt32)), .val (.long (q1 - q2)), .second, .val (.long (q3 - q1)), .second, .val (.long (q2 ^^^ q3)), .second, .val (.int (p4 ^^^ p6)), .val (.int (p5 + p6)), .unset, .unset, .unset, .unset, .unset, .unset, .unset, .unset, .unset] [(.ref b1), (.ref b1)]))
  obtain ⟨_, _, ⟨T2, L2, k2, n2⟩, -, X2, ⟨Lc2, hQ2, l2, y2, z2⟩, st2⟩ := X1.specialBack hx (y := (⟨"com/example/seqlint/seqlint/kafka/Batch", "<init>", "()V"⟩ : MethodName)) rfl hown (mvT hZ (hw _ (List.mem_of_getElem? (i := 3) rfl))) (mvT hZ (hw _ (List.mem_of_getElem? (i := 4) rfl))) (mvT hZ (hw _ (List.mem_of_getElem? (i := 5) rfl))) (by decide) (backOf (W := 1) (rm1 l Z a0 hw [] b1 h1 n0 Z1 ) hZ (hw _ (List.mem_of_getElem? (i := 5) rfl)) (hw _ (List.mem_of_getElem? (i := 2) rfl)) (by decide) (by decide)) (g := (mkF m 48 #[.val (.long q1), .second, .val (.long q2), .second, .val (.long q3), .second, .val (.int p4), .val (.int p5), .val (.int p6), .val (.int (p5.toInt16.toInt32)), .val (.int (((p5.toUInt32 >>> ((16 : Int32) &&& 31).toUInt32).toInt32).toInt16.toInt32)), .val (.long (q1 - q2)), .second, .val (.long (q3 - q1)), .second, .val (.long (q2 ^^^ q3)), .second, .val (.int (p4 ^^^ p6)), .val (.int (p5 + p6)), .unset, .unset, .unset, .unset, .unset, .unset, .unset, .unset, .unset] [(.ref b1), (.ref b1)])) rfl (by rw [hml]; rfl) (Steps.refl _) (a := b1) (argsL := []) (rest := [(.ref b1)]) (lenOf pd_3 rfl) rfl (by show 2 * 0 + _ ≤ _; exact Nat.le_of_eq rfl) (hb hby at_48) (fun _ _ => ⟨rfl, e1, (by decide : 1 + 0 ≤ _), (by decide : 14 + 0 ≤ _)⟩)
  dsimp only [Pt.U, Pt.locs, Pt.cells, Pt.slots] at X2 l2 y2 z2 st2 hQ2
  subst l2 y2 z2
  obtain ⟨rfl, Nq2, eq2⟩ := hQ2
  refine Goes.run st2 ?_
  have N2 := Fr.app N0 Nq2
  show Goes p e below s _ _ _ (T2.setTop (mkF m 51 #[.val (.long q1), .second, .val (.long q2), .second, .val (.long q3), .second, .val (.int p4), .val (.int p5), .val (.int p6), .val (.int (p5.toInt16.toInt32)), .val (.int (((p5.toUInt32 >>> ((16 : Int32) &&& 31).toUInt32).toInt32).toInt16.toInt32)), .val (.long (q1 - q2)), .second, .val (.long (q3 - q1)), .second, .val (.long (q2 ^^^ q3)), .second, .val (.int (p4 ^^^ p6)), .val (.int (p5 + p6)), .unset, .unset, .unset, .unset, .unset, .unset, .unset, .unset, .unset] [(.ref b1)]))
  refine Goes.pre (fun t kt => XS.astore X2.here hx rfl (hb hby at_51) rfl rfl (l' := #[.val (.long q1), .second, .val (.long q2), .second, .val (.long q3), .second, .val (.int p4), .val (.int p5), .val (.int p6), .val (.int (p5.toInt16.toInt32)), .val (.int (((p5.toUInt32 >>> ((16 : Int32) &&& 31).toUInt32).toInt32).toInt16.toInt32)), .val (.long (q1 - q2)), .second, .val (.long (q3 - q1)), .second, .val (.long (q2 ^^^ q3)), .second, .val (.int (p4 ^^^ p6)), .val (.int (p5 + p6)), .val (.ref b1), .unset, .unset, .unset, .unset, .unset, .unset, .unset, .unset]) rfl kt) ?_
  show Goes p e below s _ _ _ (T2.setTop (mkF m 53 #[.val (.long q1), .second, .val (.long q2), .second, .val (.long q3), .second, .val (.int p4), .val (.int p5), .val (.int p6), .val (.int (p5.toInt16.toInt32)), .val (.int (((p5.toUInt32 >>> ((16 : Int32) &&& 31).toUInt32).toInt32).toInt16.toInt32)), .val (.long (q1 - q2)), .second, .val (.long (q3 - q1)), .second, .val (.long (q2 ^^^ q3)), .second, .val (.int (p4 ^^^ p6)), .val (.int (p5 + p6)), .val (.ref b1), .unset, .unset, .unset, .unset, .unset, .unset, .unset, .unset] []))
  refine Goes.pre (fun t kt => XS.aload X2.here hx rfl (hb hby at_53) rfl rfl kt) ?_
  show Goes p e below s _ _ _ (T2.setTop (mkF m 55 #[.val (.long q1), .second, .val (.long q2), .second, .val (.long q3), .second, .val (.int p4), .val (.int p5), .val (.int p6), .val (.int (p5.toInt16.toInt32)), .val (.int (((p5.toUInt32 >>> ((16 : Int32) &&& 31).toUInt32).toInt32).toInt16.toInt32)), .val (.long (q1 - q2)), .second, .val (.long (q3 - q1)), .second, .val (.long (q2 ^^^ q3)), .second, .val (.int (p4 ^^^ p6)), .val (.int (p5 + p6)), .val (.ref b1), .unset, .unset, .unset, .unset, .unset, .unset, .unset, .unset] [(.ref b1)]))
  refine Goes.pre (fun t kt => XS.lloadN X2.here hx rfl (hb hby at_55) rfl kt) ?_
  show Goes p e below s _ _ _ (T2.setTop (mkF m 56 #[.val (.long q1), .second, .val (.long q2), .second, .val (.long q3), .second, .val (.int p4), .val (.int p5), .val (.int p6), .val (.int (p5.toInt16.toInt32)), .val (.int (((p5.toUInt32 >>> ((16 : Int32) &&& 31).toUInt32).toInt32).toInt16.toInt32)), .val (.long (q1 - q2)), .second, .val (.long (q3 - q1)), .second, .val (.long (q2 ^^^ q3)), .second, .val (.int (p4 ^^^ p6)), .val (.int (p5 + p6)), .val (.ref b1), .unset, .unset, .unset, .unset, .unset, .unset, .unset, .unset] [(.long q1), (.ref b1)]))
  have fc3 : Sta Z h1 "com/example/seqlint/seqlint/kafka/Batch$Marker" "COMMIT" "Lcom/example/seqlint/seqlint/kafka/Batch$Marker;" (.ref w1) := (pf_S_com_example_seqlint_seqlint_kafka_Batch_Marker_COMMIT.ext E1)
  obtain ⟨T4, X4, e4, st4⟩ := getS2 X2 hx hZ hown (host := "") (Or.inl (hw _ (List.mem_of_getElem? (i := 9) rfl))) Via.refl eq2 fc3 (g := (mkF m 56 #[.val (.long q1), .second, .val (.long q2), .second, .val (.long q3), .second, .val (.int p4), .val (.int p5), .val (.int p6), .val (.int (p5.toInt16.toInt32)), .val (.int (((p5.toUInt32 >>> ((16 : Int32) &&& 31).toUInt32).toInt32).toInt16.toInt32)), .val (.long (q1 - q2)), .second, .val (.long (q3 - q1)), .second, .val (.long (q2 ^^^ q3)), .second, .val (.int (p4 ^^^ p6)), .val (.int (p5 + p6)), .val (.ref b1), .unset, .unset, .unset, .unset, .unset, .unset, .unset, .unset] [(.long q1), (.ref b1)])) rfl (hb hby at_56)
  refine Goes.pre st4 ?_
  show Goes p e below s _ _ _ (T4.setTop (mkF m 59 #[.val (.long q1), .second, .val (.long q2), .second, .val (.long q3), .second, .val (.int p4), .val (.int p5), .val (.int p6), .val (.int (p5.toInt16.toInt32)), .val (.int (((p5.toUInt32 >>> ((16 : Int32) &&& 31).toUInt32).toInt32).toInt16.toInt32)), .val (.long (q1 - q2)), .second, .val (.long (q3 - q1)), .second, .val (.long (q2 ^^^ q3)), .second, .val (.int (p4 ^^^ p6)), .val (.int (p5 + p6)), .val (.ref b1), .unset, .unset, .unset, .unset, .unset, .unset, .unset, .unset] [(.ref w1), (.long q1), (.ref b1)]))
  obtain ⟨cq6, kq6, qa6, qb6, qc6⟩ := isOf hZ e4 A1
  obtain ⟨_, _, ⟨T5, L5, k5, n5⟩, -, X5, ⟨Lc5, hQ5, l5, y5, z5⟩, st5⟩ := X4.virtualBack hx (y := (⟨"com/example/seqlint/seqlint/kafka/Batch", "setRecordsRead", "(JLcom/example/seqlint/seqlint/kafka/Batch$Marker;)V"⟩ : MethodName)) (z := (⟨"com/example/seqlint/seqlint/kafka/Batch", "setRecordsRead", "(JLcom/example/seqlint/seqlint/kafka/Batch$Marker;)V"⟩ : MethodName)) hown (mvT hZ (hw _ (List.mem_of_getElem? (i := 12) rfl))) (mvT hZ (hw _ (List.mem_of_getElem? (i := 13) rfl))) (notFace_of_selects (args := #[]) (mvT hZ (hw _ (List.mem_of_getElem? (i := 15) rfl)))) (mvT hZ (hw _ (List.mem_of_getElem? (i := 15) rfl))) (mvT hZ (hw _ (List.mem_of_getElem? (i := 14) rfl))) (by decide) (backOf (W := 0) (rm3c l Z a0 hw [] b1 q1 w1 (.long (0 : Int64)) .null (0 : Int64) (0 : Int64) (0 : Int32) (0 : Int64) (0 : Int32) (0 : Int32) (0 : Int64) (0 : Int64) (0 : Int64) (0 : Int32) (0 : Int32) (0 : Int32) h1 n0 Z1 A1 gg1 Fn1_18 Fn1_20 Fn1_27 Fn1_29 Fn1_31 Fn1_33 Fn1_36 Fn1_38 Fn1_40 Fn1_42 Fn1_44 Fn1_46 Fn1_48 Fn1_50) hZ (hw _ (List.mem_of_getElem? (i := 16) rfl)) (hw _ (List.mem_of_getElem? (i := 2) rfl)) (by decide) (by decide)) qa6 qc6 (g := (mkF m 59 #[.val (.long q1), .second, .val (.long q2), .second, .val (.long q3), .second, .val (.int p4), .val (.int p5), .val (.int p6), .val (.int (p5.toInt16.toInt32)), .val (.int (((p5.toUInt32 >>> ((16 : Int32) &&& 31).toUInt32).toInt32).toInt16.toInt32)), .val (.long (q1 - q2)), .second, .val (.long (q3 - q1)), .second, .val (.long (q2 ^^^ q3)), .second, .val (.int (p4 ^^^ p6)), .val (.int (p5 + p6)), .val (.ref b1), .unset, .unset, .unset, .unset, .unset, .unset, .unset, .unset] [(.ref w1), (.long q1), (.ref b1)])) rfl (by rw [hml]; rfl) (Steps.refl _) (argsL := [(.long q1), (.ref w1)]) (rest := []) (lenOf pd_4 rfl) rfl (by show 2 * 0 + _ ≤ _; exact Nat.le_of_eq rfl) (hb hby at_59) (fun _ _ => ⟨rfl, e4, (by decide : 1 + 0 ≤ _), (by decide : 14 + 0 ≤ _)⟩)
  dsimp only [Pt.U, Pt.locs, Pt.cells, Pt.slots] at X5 l5 y5 z5 st5 hQ5
  subst l5 y5 z5
  obtain ⟨rfl, Nq5, Kq5, pq5_0, pq5_1, pq5_2, pq5_3, pq5_4, pq5_5, pq5_6, pq5_7, pq5_8, pq5_9, pq5_10, pq5_11, pq5_12, pq5_13⟩ := hQ5
  refine Goes.run st5 ?_
  have N5 := Fr.app N2 Nq5
  obtain ⟨h5, e5⟩ : ∃ z, T5.heap = z := ⟨_, rfl⟩
  rw [e5] at Kq5 pq5_0 pq5_1 pq5_2 pq5_3 pq5_4 pq5_5 pq5_6 pq5_7 pq5_8 pq5_9 pq5_10 pq5_11 pq5_12 pq5_13
  have Z5 : n0 ≤ h5.size := Nat.le_trans Z1 Kq5.1
  show Goes p e below s _ _ _ (T5.setTop (mkF m 62 #[.val (.long q1), .second, .val (.long q2), .second, .val (.long q3), .second, .val (.int p4), .val (.int p5), .val (.int p6), .val (.int (p5.toInt16.toInt32)), .val (.int (((p5.toUInt32 >>> ((16 : Int32) &&& 31).toUInt32).toInt32).toInt16.toInt32)), .val (.long (q1 - q2)), .second, .val (.long (q3 - q1)), .second, .val (.long (q2 ^^^ q3)), .second, .val (.int (p4 ^^^ p6)), .val (.int (p5 + p6)), .val (.ref b1), .unset, .unset, .unset, .unset, .unset, .unset, .unset, .unset] []))
  refine Goes.pre (fun t kt => XS.aload X5.here hx rfl (hb hby at_62) rfl rfl kt) ?_
  show Goes p e below s _ _ _ (T5.setTop (mkF m 64 #[.val (.long q1), .second, .val (.long q2), .second, .val (.long q3), .second, .val (.int p4), .val (.int p5), .val (.int p6), .val (.int (p5.toInt16.toInt32)), .val (.int (((p5.toUInt32 >>> ((16 : Int32) &&& 31).toUInt32).toInt32).toInt16.toInt32)), .val (.long (q1 - q2)), .second, .val (.long (q3 - q1)), .second, .val (.long (q2 ^^^ q3)), .second, .val (.int (p4 ^^^ p6)), .val (.int (p5 + p6)), .val (.ref b1), .unset, .unset, .unset, .unset, .unset, .unset, .unset, .unset] [(.ref b1)]))
  refine Goes.pre (fun t kt => XS.lloadN X5.here hx rfl (hb hby at_64) rfl kt) ?_
  show Goes p e below s _ _ _ (T5.setTop (mkF m 65 #[.val (.long q1), .second, .val (.long q2), .second, .val (.long q3), .second, .val (.int p4), .val (.int p5), .val (.int p6), .val (.int (p5.toInt16.toInt32)), .val (.int (((p5.toUInt32 >>> ((16 : Int32) &&& 31).toUInt32).toInt32).toInt16.toInt32)), .val (.long (q1 - q2)), .second, .val (.long (q3 - q1)), .second, .val (.long (q2 ^^^ q3)), .second, .val (.int (p4 ^^^ p6)), .val (.int (p5 + p6)), .val (.ref b1), .unset, .unset, .unset, .unset, .unset, .unset, .unset, .unset] [(.long q1), (.ref b1)]))
  refine Goes.pre (fun t kt => XS.lloadN X5.here hx rfl (hb hby at_65) rfl kt) ?_
  show Goes p e below s _ _ _ (T5.setTop (mkF m 66 #[.val (.long q1), .second, .val (.long q2), .second, .val (.long q3), .second, .val (.int p4), .val (.int p5), .val (.int p6), .val (.int (p5.toInt16.toInt32)), .val (.int (((p5.toUInt32 >>> ((16 : Int32) &&& 31).toUInt32).toInt32).toInt16.toInt32)), .val (.long (q1 - q2)), .second, .val (.long (q3 - q1)), .second, .val (.long (q2 ^^^ q3)), .second, .val (.int (p4 ^^^ p6)), .val (.int (p5 + p6)), .val (.ref b1), .unset, .unset, .unset, .unset, .unset, .unset, .unset, .unset] [(.long q2), (.long q1), (.ref b1)]))
  refine Goes.pre (fun t kt => XS.iload X5.here hx rfl (hb hby at_66) rfl kt) ?_
  show Goes p e below s _ _ _ (T5.setTop (mkF m 68 #[.val (.long q1), .second, .val (.long q2), .second, .val (.long q3), .second, .val (.int p4), .val (.int p5), .val (.int p6), .val (.int (p5.toInt16.toInt32)), .val (.int (((p5.toUInt32 >>> ((16 : Int32) &&& 31).toUInt32).toInt32).toInt16.toInt32)), .val (.long (q1 - q2)), .second, .val (.long (q3 - q1)), .second, .val (.long (q2 ^^^ q3)), .second, .val (.int (p4 ^^^ p6)), .val (.int (p5 + p6)), .val (.ref b1), .unset, .unset, .unset, .unset, .unset, .unset, .unset, .unset] [(.int p4), (.long q2), (.long q1), (.ref b1)]))
  refine Goes.pre (fun t kt => XS.lload X5.here hx rfl (hb hby at_68) rfl kt) ?_
  show Goes p e below s _ _ _ (T5.setTop (mkF m 70 #[.val (.long q1), .second, .val (.long q2), .second, .val (.long q3), .second, .val (.int p4), .val (.int p5), .val (.int p6), .val (.int (p5.toInt16.toInt32)), .val (.int (((p5.toUInt32 >>> ((16 : Int32) &&& 31).toUInt32).toInt32).toInt16.toInt32)), .val (.long (q1 - q2)), .second, .val (.long (q3 - q1)), .second, .val (.long (q2 ^^^ q3)), .second, .val (.int (p4 ^^^ p6)), .val (.int (p5 + p6)), .val (.ref b1), .unset, .unset, .unset, .unset, .unset, .unset, .unset, .unset] [(.long q3), (.int p4), (.long q2), (.long q1), (.ref b1)]))
  refine Goes.pre (fun t kt => XS.iload X5.here hx rfl (hb hby at_70) rfl kt) ?_
  show Goes p e below s _ _ _ (T5.setTop (mkF m 72 #[.val (.long q1), .second, .val (.long q2), .second, .val (.long q3), .second, .val (.int p4), .val (.int p5), .val (.int p6), .val (.int (p5.toInt16.toInt32)), .val (.int (((p5.toUInt32 >>> ((16 : Int32) &&& 31).toUInt32).toInt32).toInt16.toInt32)), .val (.long (q1 - q2)), .second, .val (.long (q3 - q1)), .second, .val (.long (q2 ^^^ q3)), .second, .val (.int (p4 ^^^ p6)), .val (.int (p5 + p6)), .val (.ref b1), .unset, .unset, .unset, .unset, .unset, .unset, .unset, .unset] [(.int (p5.toInt16.toInt32)), (.long q3), (.int p4), (.long q2), (.long q1), (.ref b1)]))
  refine Goes.pre (fun t kt => XS.iload X5.here hx rfl (hb hby at_72) rfl kt) ?_
  show Goes p e below s _ _ _ (T5.setTop (mkF m 74 #[.val (.long q1), .second, .val (.long q2), .second, .val (.long q3), .second, .val (.int p4), .val (.int p5), .val (.int p6), .val (.int (p5.toInt16.toInt32)), .val (.int (((p5.toUInt32 >>> ((16 : Int32) &&& 31).toUInt32).toInt32).toInt16.toInt32)), .val (.long (q1 - q2)), .second, .val (.long (q3 - q1)), .second, .val (.long (q2 ^^^ q3)), .second, .val (.int (p4 ^^^ p6)), .val (.int (p5 + p6)), .val (.ref b1), .unset, .unset, .unset, .unset, .unset, .unset, .unset, .unset] [(.int p6), (.int (p5.toInt16.toInt32)), (.long q3), (.int p4), (.long q2), (.long q1), (.ref b1)]))
  refine Goes.pre (fun t kt => XS.lload X5.here hx rfl (hb hby at_74) rfl kt) ?_
  show Goes p e below s _ _ _ (T5.setTop (mkF m 76 #[.val (.long q1), .second, .val (.long q2), .second, .val (.long q3), .second, .val (.int p4), .val (.int p5), .val (.int p6), .val (.int (p5.toInt16.toInt32)), .val (.int (((p5.toUInt32 >>> ((16 : Int32) &&& 31).toUInt32).toInt32).toInt16.toInt32)), .val (.long (q1 - q2)), .second, .val (.long (q3 - q1)), .second, .val (.long (q2 ^^^ q3)), .second, .val (.int (p4 ^^^ p6)), .val (.int (p5 + p6)), .val (.ref b1), .unset, .unset, .unset, .unset, .unset, .unset, .unset, .unset] [(.long (q1 - q2)), (.int p6), (.int (p5.toInt16.toInt32)), (.long q3), (.int p4), (.long q2), (.long q1), (.ref b1)]))
  refine Goes.pre (fun t kt => XS.lload X5.here hx rfl (hb hby at_76) rfl kt) ?_
  show Goes p e below s _ _ _ (T5.setTop (mkF m 78 #[.val (.long q1), .second, .val (.long q2), .second, .val (.long q3), .second, .val (.int p4), .val (.int p5), .val (.int p6), .val (.int (p5.toInt16.toInt32)), .val (.int (((p5.toUInt32 >>> ((16 : Int32) &&& 31).toUInt32).toInt32).toInt16.toInt32)), .val (.long (q1 - q2)), .second, .val (.long (q3 - q1)), .second, .val (.long (q2 ^^^ q3)), .second, .val (.int (p4 ^^^ p6)), .val (.int (p5 + p6)), .val (.ref b1), .unset, .unset, .unset, .unset, .unset, .unset, .unset, .unset] [(.long (q3 - q1)), (.long (q1 - q2)), (.int p6), (.int (p5.toInt16.toInt32)), (.long q3), (.int p4), (.long q2), (.long q1), (.ref b1)]))
  refine Goes.pre (fun t kt => XS.lload X5.here hx rfl (hb hby at_78) rfl kt) ?_
  show Goes p e below s _ _ _ (T5.setTop (mkF m 80 #[.val (.long q1), .second, .val (.long q2), .second, .val (.long q3), .second, .val (.int p4), .val (.int p5), .val (.int p6), .val (.int (p5.toInt16.toInt32)), .val (.int (((p5.toUInt32 >>> ((16 : Int32) &&& 31).toUInt32).toInt32).toInt16.toInt32)), .val (.long (q1 - q2)), .second, .val (.long (q3 - q1)), .second, .val (.long (q2 ^^^ q3)), .second, .val (.int (p4 ^^^ p6)), .val (.int (p5 + p6)), .val (.ref b1), .unset, .unset, .unset, .unset, .unset, .unset, .unset, .unset] [(.long (q2 ^^^ q3)), (.long (q3 - q1)), (.long (q1 - q2)), (.int p6), (.int (p5.toInt16.toInt32)), (.long q3), (.int p4), (.long q2), (.long q1), (.ref b1)]))
  refine Goes.pre (fun t kt => XS.iload X5.here hx rfl (hb hby at_80) rfl kt) ?_
  show Goes p e below s _ _ _ (T5.setTop (mkF m 82 #[.val (.long q1), .second, .val (.long q2), .second, .val (.long q3), .second, .val (.int p4), .val (.int p5), .val (.int p6), .val (.int (p5.toInt16.toInt32)), .val (.int (((p5.toUInt32 >>> ((16 : Int32) &&& 31).toUInt32).toInt32).toInt16.toInt32)), .val (.long (q1 - q2)), .second, .val (.long (q3 - q1)), .second, .val (.long (q2 ^^^ q3)), .second, .val (.int (p4 ^^^ p6)), .val (.int (p5 + p6)), .val (.ref b1), .unset, .unset, .unset, .unset, .unset, .unset, .unset, .unset] [(.int (((p5.toUInt32 >>> ((16 : Int32) &&& 31).toUInt32).toInt32).toInt16.toInt32)), (.long (q2 ^^^ q3)), (.long (q3 - q1)), (.long (q1 - q2)), (.int p6), (.int (p5.toInt16.toInt32)), (.long q3), (.int p4), (.long q2), (.long q1), (.ref b1)]))
  refine Goes.pre (fun t kt => XS.iload X5.here hx rfl (hb hby at_82) rfl kt) ?_
  show Goes p e below s _ _ _ (T5.setTop (mkF m 84 #[.val (.long q1), .second, .val (.long q2), .second, .val (.long q3), .second, .val (.int p4), .val (.int p5), .val (.int p6), .val (.int (p5.toInt16.toInt32)), .val (.int (((p5.toUInt32 >>> ((16 : Int32) &&& 31).toUInt32).toInt32).toInt16.toInt32)), .val (.long (q1 - q2)), .second, .val (.long (q3 - q1)), .second, .val (.long (q2 ^^^ q3)), .second, .val (.int (p4 ^^^ p6)), .val (.int (p5 + p6)), .val (.ref b1), .unset, .unset, .unset, .unset, .unset, .unset, .unset, .unset] [(.int (p4 ^^^ p6)), (.int (((p5.toUInt32 >>> ((16 : Int32) &&& 31).toUInt32).toInt32).toInt16.toInt32)), (.long (q2 ^^^ q3)), (.long (q3 - q1)), (.long (q1 - q2)), (.int p6), (.int (p5.toInt16.toInt32)), (.long q3), (.int p4), (.long q2), (.long q1), (.ref b1)]))
  refine Goes.pre (fun t kt => XS.iload X5.here hx rfl (hb hby at_84) rfl kt) ?_
  show Goes p e below s _ _ _ (T5.setTop (mkF m 86 #[.val (.long q1), .second, .val (.long q2), .second, .val (.long q3), .second, .val (.int p4), .val (.int p5), .val (.int p6), .val (.int (p5.toInt16.toInt32)), .val (.int (((p5.toUInt32 >>> ((16 : Int32) &&& 31).toUInt32).toInt32).toInt16.toInt32)), .val (.long (q1 - q2)), .second, .val (.long (q3 - q1)), .second, .val (.long (q2 ^^^ q3)), .second, .val (.int (p4 ^^^ p6)), .val (.int (p5 + p6)), .val (.ref b1), .unset, .unset, .unset, .unset, .unset, .unset, .unset, .unset] [(.int (p5 + p6)), (.int (p4 ^^^ p6)), (.int (((p5.toUInt32 >>> ((16 : Int32) &&& 31).toUInt32).toInt32).toInt16.toInt32)), (.long (q2 ^^^ q3)), (.long (q3 - q1)), (.long (q1 - q2)), (.int p6), (.int (p5.toInt16.toInt32)), (.long q3), (.int p4), (.long q2), (.long q1), (.ref b1)]))
  have fc7 : Exa Z h5 b1 "com/example/seqlint/seqlint/kafka/Batch" := (A1.keep Kq5)
  obtain ⟨cq9, kq9, qa9, qb9, qc9⟩ := isOf hZ e5 fc7
  obtain ⟨_, _, ⟨T8, L8, k8, n8⟩, -, X8, ⟨Lc8, hQ8, l8, y8, z8⟩, st8⟩ := X5.virtualBack hx (y := (⟨"com/example/seqlint/seqlint/kafka/Batch", "set", "(JJIJSIJJJSII)V"⟩ : MethodName)) (z := (⟨"com/example/seqlint/seqlint/kafka/Batch", "set", "(JJIJSIJJJSII)V"⟩ : MethodName)) hown (mvT hZ (hw _ (List.mem_of_getElem? (i := 21) rfl))) (mvT hZ (hw _ (List.mem_of_getElem? (i := 22) rfl))) (notFace_of_selects (args := #[]) (mvT hZ (hw _ (List.mem_of_getElem? (i := 24) rfl)))) (mvT hZ (hw _ (List.mem_of_getElem? (i := 24) rfl))) (mvT hZ (hw _ (List.mem_of_getElem? (i := 23) rfl))) (by decide) (backOf (W := 0) (rmset l Z a0 hw [] b1 q1 q2 p4 q3 (p5.toInt16.toInt32) p6 (q1 - q2) (q3 - q1) (q2 ^^^ q3) (((p5.toUInt32 >>> ((16 : Int32) &&& 31).toUInt32).toInt32).toInt16.toInt32) (p4 ^^^ p6) (p5 + p6) (.long (0 : Int64)) (.long (0 : Int64)) (.int (0 : Int32)) (.long (0 : Int64)) (.long q1) (.int (0 : Int32)) (.int (0 : Int32)) (.long (0 : Int64)) (.long (0 : Int64)) (.long (0 : Int64)) (.int (0 : Int32)) (.int (0 : Int32)) (.int (0 : Int32)) (.ref w1) h5 n0 Z5 fc7 gg1 (own_short _) (own_short _) pq5_2 pq5_3 pq5_4 pq5_5 pq5_0 pq5_6 pq5_7 pq5_8 pq5_9 pq5_10 pq5_11 pq5_12 pq5_13 pq5_1) hZ (hw _ (List.mem_of_getElem? (i := 25) rfl)) (hw _ (List.mem_of_getElem? (i := 2) rfl)) (by decide) (by decide)) qa9 qc9 (g := (mkF m 86 #[.val (.long q1), .second, .val (.long q2), .second, .val (.long q3), .second, .val (.int p4), .val (.int p5), .val (.int p6), .val (.int (p5.toInt16.toInt32)), .val (.int (((p5.toUInt32 >>> ((16 : Int32) &&& 31).toUInt32).toInt32).toInt16.toInt32)), .val (.long (q1 - q2)), .second, .val (.long (q3 - q1)), .second, .val (.long (q2 ^^^ q3)), .second, .val (.int (p4 ^^^ p6)), .val (.int (p5 + p6)), .val (.ref b1), .unset, .unset, .unset, .unset, .unset, .unset, .unset, .unset] [(.int (p5 + p6)), (.int (p4 ^^^ p6)), (.int (((p5.toUInt32 >>> ((16 : Int32) &&& 31).toUInt32).toInt32).toInt16.toInt32)), (.long (q2 ^^^ q3)), (.long (q3 - q1)), (.long (q1 - q2)), (.int p6), (.int (p5.toInt16.toInt32)), (.long q3), (.int p4), (.long q2), (.long q1), (.ref b1)])) rfl (by rw [hml]; rfl) (Steps.refl _) (argsL := [(.long q1), (.long q2), (.int p4), (.long q3), (.int (p5.toInt16.toInt32)), (.int p6), (.long (q1 - q2)), (.long (q3 - q1)), (.long (q2 ^^^ q3)), (.int (((p5.toUInt32 >>> ((16 : Int32) &&& 31).toUInt32).toInt32).toInt16.toInt32)), (.int (p4 ^^^ p6)), (.int (p5 + p6))]) (rest := []) (lenOf pd_5 rfl) rfl (by show 2 * 0 + _ ≤ _; exact Nat.le_of_eq rfl) (hb hby at_86) (fun _ _ => ⟨rfl, e5, (by decide : 1 + 0 ≤ _), (by decide : 14 + 0 ≤ _)⟩)
  dsimp only [Pt.U, Pt.locs, Pt.cells, Pt.slots] at X8 l8 y8 z8 st8 hQ8
  subst l8 y8 z8
  obtain ⟨rfl, Nq8, Kq8, pq8_0, pq8_1, pq8_2, pq8_3, pq8_4, pq8_5, pq8_6, pq8_7, pq8_8, pq8_9, pq8_10, pq8_11, pq8_12, pq8_13⟩ := hQ8
  refine Goes.run st8 ?_
  have N8 := Fr.app N5 Nq8
  obtain ⟨h8, e8⟩ : ∃ z, T8.heap = z := ⟨_, rfl⟩
  rw [e8] at Kq8 pq8_0 pq8_1 pq8_2 pq8_3 pq8_4 pq8_5 pq8_6 pq8_7 pq8_8 pq8_9 pq8_10 pq8_11 pq8_12 pq8_13
  have Z8 : n0 ≤ h8.size := Nat.le_trans Z5 Kq8.1
  show Goes p e below s _ _ _ (T8.setTop (mkF m 89 #[.val (.long q1), .second, .val (.long q2), .second, .val (.long q3), .second, .val (.int p4), .val (.int p5), .val (.int p6), .val (.int (p5.toInt16.toInt32)), .val (.int (((p5.toUInt32 >>> ((16 : Int32) &&& 31).toUInt32).toInt32).toInt16.toInt32)), .val (.long (q1 - q2)), .second, .val (.long (q3 - q1)), .second, .val (.long (q2 ^^^ q3)), .second, .val (.int (p4 ^^^ p6)), .val (.int (p5 + p6)), .val (.ref b1), .unset, .unset, .unset, .unset, .unset, .unset, .unset, .unset] []))
  refine Goes.pre (fun t kt => XS.lload X8.here hx rfl (hb hby at_89) rfl kt) ?_
  show Goes p e below s _ _ _ (T8.setTop (mkF m 91 #[.val (.long q1), .second, .val (.long q2), .second, .val (.long q3), .second, .val (.int p4), .val (.int p5), .val (.int p6), .val (.int (p5.toInt16.toInt32)), .val (.int (((p5.toUInt32 >>> ((16 : Int32) &&& 31).toUInt32).toInt32).toInt16.toInt32)), .val (.long (q1 - q2)), .second, .val (.long (q3 - q1)), .second, .val (.long (q2 ^^^ q3)), .second, .val (.int (p4 ^^^ p6)), .val (.int (p5 + p6)), .val (.ref b1), .unset, .unset, .unset, .unset, .unset, .unset, .unset, .unset] [(.long (q2 ^^^ q3))]))
  refine Goes.pre (X8.ldc2Long hx hown (mvT hZ (hw _ (List.mem_of_getElem? (i := 51) rfl))) (g := (mkF m 91 #[.val (.long q1), .second, .val (.long q2), .second, .val (.long q3), .second, .val (.int p4), .val (.int p5), .val (.int p6), .val (.int (p5.toInt16.toInt32)), .val (.int (((p5.toUInt32 >>> ((16 : Int32) &&& 31).toUInt32).toInt32).toInt16.toInt32)), .val (.long (q1 - q2)), .second, .val (.long (q3 - q1)), .second, .val (.long (q2 ^^^ q3)), .second, .val (.int (p4 ^^^ p6)), .val (.int (p5 + p6)), .val (.ref b1), .unset, .unset, .unset, .unset, .unset, .unset, .unset, .unset] [(.long (q2 ^^^ q3))])) rfl (hb hby at_91)) ?_
  show Goes p e below s _ _ _ (T8.setTop (mkF m 94 #[.val (.long q1), .second, .val (.long q2), .second, .val (.long q3), .second, .val (.int p4), .val (.int p5), .val (.int p6), .val (.int (p5.toInt16.toInt32)), .val (.int (((p5.toUInt32 >>> ((16 : Int32) &&& 31).toUInt32).toInt32).toInt16.toInt32)), .val (.long (q1 - q2)), .second, .val (.long (q3 - q1)), .second, .val (.long (q2 ^^^ q3)), .second, .val (.int (p4 ^^^ p6)), .val (.int (p5 + p6)), .val (.ref b1), .unset, .unset, .unset, .unset, .unset, .unset, .unset, .unset] [(.long (-1 : Int64)), (.long (q2 ^^^ q3))]))
  refine Goes.pre (fun t kt => XS.lcmp X8.here hx rfl (hb hby at_94) rfl kt) ?_
  show Goes p e below s _ _ _ (T8.setTop (mkF m 95 #[.val (.long q1), .second, .val (.long q2), .second, .val (.long q3), .second, .val (.int p4), .val (.int p5), .val (.int p6), .val (.int (p5.toInt16.toInt32)), .val (.int (((p5.toUInt32 >>> ((16 : Int32) &&& 31).toUInt32).toInt32).toInt16.toInt32)), .val (.long (q1 - q2)), .second, .val (.long (q3 - q1)), .second, .val (.long (q2 ^^^ q3)), .second, .val (.int (p4 ^^^ p6)), .val (.int (p5 + p6)), .val (.ref b1), .unset, .unset, .unset, .unset, .unset, .unset, .unset, .unset] [(.int (lcmpW (q2 ^^^ q3) (-1 : Int64)))]))
  have J10 : ∀ (j10_0 : Int32), (j10_0 = own_nz (q2 ^^^ q3)) → Goes p e below s (Q_rm0 Z q1 q2 q3 p4 p5 p6 w1 h0 n0) room_1.cells room_1.slots (T8.setTop (mkF m 103 #[.val (.long q1), .second, .val (.long q2), .second, .val (.long q3), .second, .val (.int p4), .val (.int p5), .val (.int p6), .val (.int (p5.toInt16.toInt32)), .val (.int (((p5.toUInt32 >>> ((16 : Int32) &&& 31).toUInt32).toInt32).toInt16.toInt32)), .val (.long (q1 - q2)), .second, .val (.long (q3 - q1)), .second, .val (.long (q2 ^^^ q3)), .second, .val (.int (p4 ^^^ p6)), .val (.int (p5 + p6)), .val (.ref b1), .unset, .unset, .unset, .unset, .unset, .unset, .unset, .unset] [(.int j10_0)])) := by
    intro j10_0 hz1
    refine Goes.pre (fun t kt => XS.istore X8.here hx rfl (hb hby at_103) rfl (l' := #[.val (.long q1), .second, .val (.long q2), .second, .val (.long q3), .second, .val (.int p4), .val (.int p5), .val (.int p6), .val (.int (p5.toInt16.toInt32)), .val (.int (((p5.toUInt32 >>> ((16 : Int32) &&& 31).toUInt32).toInt32).toInt16.toInt32)), .val (.long (q1 - q2)), .second, .val (.long (q3 - q1)), .second, .val (.long (q2 ^^^ q3)), .second, .val (.int (p4 ^^^ p6)), .val (.int (p5 + p6)), .val (.ref b1), .val (.int j10_0), .unset, .unset, .unset, .unset, .unset, .unset, .unset]) rfl kt) ?_
    show Goes p e below s _ _ _ (T8.setTop (mkF m 105 #[.val (.long q1), .second, .val (.long q2), .second, .val (.long q3), .second, .val (.int p4), .val (.int p5), .val (.int p6), .val (.int (p5.toInt16.toInt32)), .val (.int (((p5.toUInt32 >>> ((16 : Int32) &&& 31).toUInt32).toInt32).toInt16.toInt32)), .val (.long (q1 - q2)), .second, .val (.long (q3 - q1)), .second, .val (.long (q2 ^^^ q3)), .second, .val (.int (p4 ^^^ p6)), .val (.int (p5 + p6)), .val (.ref b1), .val (.int j10_0), .unset, .unset, .unset, .unset, .unset, .unset, .unset] []))
    refine Goes.pre (fun t kt => XS.iload X8.here hx rfl (hb hby at_105) rfl kt) ?_
    show Goes p e below s _ _ _ (T8.setTop (mkF m 107 #[.val (.long q1), .second, .val (.long q2), .second, .val (.long q3), .second, .val (.int p4), .val (.int p5), .val (.int p6), .val (.int (p5.toInt16.toInt32)), .val (.int (((p5.toUInt32 >>> ((16 : Int32) &&& 31).toUInt32).toInt32).toInt16.toInt32)), .val (.long (q1 - q2)), .second, .val (.long (q3 - q1)), .second, .val (.long (q2 ^^^ q3)), .second, .val (.int (p4 ^^^ p6)), .val (.int (p5 + p6)), .val (.ref b1), .val (.int j10_0), .unset, .unset, .unset, .unset, .unset, .unset, .unset] [(.int (p5.toInt16.toInt32))]))
    refine Goes.pre (fun t kt => XS.bipush X8.here hx rfl (hb hby at_107) kt) ?_
    show Goes p e below s _ _ _ (T8.setTop (mkF m 109 #[.val (.long q1), .second, .val (.long q2), .second, .val (.long q3), .second, .val (.int p4), .val (.int p5), .val (.int p6), .val (.int (p5.toInt16.toInt32)), .val (.int (((p5.toUInt32 >>> ((16 : Int32) &&& 31).toUInt32).toInt32).toInt16.toInt32)), .val (.long (q1 - q2)), .second, .val (.long (q3 - q1)), .second, .val (.long (q2 ^^^ q3)), .second, .val (.int (p4 ^^^ p6)), .val (.int (p5 + p6)), .val (.ref b1), .val (.int j10_0), .unset, .unset, .unset, .unset, .unset, .unset, .unset] [(.int (32 : Int32)), (.int (p5.toInt16.toInt32))]))
    refine Goes.pre (fun t kt => XS.iand X8.here hx rfl (hb hby at_109) rfl kt) ?_
    show Goes p e below s _ _ _ (T8.setTop (mkF m 110 #[.val (.long q1), .second, .val (.long q2), .second, .val (.long q3), .second, .val (.int p4), .val (.int p5), .val (.int p6), .val (.int (p5.toInt16.toInt32)), .val (.int (((p5.toUInt32 >>> ((16 : Int32) &&& 31).toUInt32).toInt32).toInt16.toInt32)), .val (.long (q1 - q2)), .second, .val (.long (q3 - q1)), .second, .val (.long (q2 ^^^ q3)), .second, .val (.int (p4 ^^^ p6)), .val (.int (p5 + p6)), .val (.ref b1), .val (.int j10_0), .unset, .unset, .unset, .unset, .unset, .unset, .unset] [(.int ((p5.toInt16.toInt32) &&& (32 : Int32)))]))
    have J11 : ∀ (j11_0 : Int32), (j11_0 = own_bit (p5.toInt16.toInt32) 32) → Goes p e below s (Q_rm0 Z q1 q2 q3 p4 p5 p6 w1 h0 n0) room_1.cells room_1.slots (T8.setTop (mkF m 118 #[.val (.long q1), .second, .val (.long q2), .second, .val (.long q3), .second, .val (.int p4), .val (.int p5), .val (.int p6), .val (.int (p5.toInt16.toInt32)), .val (.int (((p5.toUInt32 >>> ((16 : Int32) &&& 31).toUInt32).toInt32).toInt16.toInt32)), .val (.long (q1 - q2)), .second, .val (.long (q3 - q1)), .second, .val (.long (q2 ^^^ q3)), .second, .val (.int (p4 ^^^ p6)), .val (.int (p5 + p6)), .val (.ref b1), .val (.int j10_0), .unset, .unset, .unset, .unset, .unset, .unset, .unset] [(.int j11_0)])) := by
      intro j11_0 hz2
      refine Goes.pre (fun t kt => XS.istore X8.here hx rfl (hb hby at_118) rfl (l' := #[.val (.long q1), .second, .val (.long q2), .second, .val (.long q3), .second, .val (.int p4), .val (.int p5), .val (.int p6), .val (.int (p5.toInt16.toInt32)), .val (.int (((p5.toUInt32 >>> ((16 : Int32) &&& 31).toUInt32).toInt32).toInt16.toInt32)), .val (.long (q1 - q2)), .second, .val (.long (q3 - q1)), .second, .val (.long (q2 ^^^ q3)), .second, .val (.int (p4 ^^^ p6)), .val (.int (p5 + p6)), .val (.ref b1), .val (.int j10_0), .val (.int j11_0), .unset, .unset, .unset, .unset, .unset, .unset]) rfl kt) ?_
      show Goes p e below s _ _ _ (T8.setTop (mkF m 120 #[.val (.long q1), .second, .val (.long q2), .second, .val (.long q3), .second, .val (.int p4), .val (.int p5), .val (.int p6), .val (.int (p5.toInt16.toInt32)), .val (.int (((p5.toUInt32 >>> ((16 : Int32) &&& 31).toUInt32).toInt32).toInt16.toInt32)), .val (.long (q1 - q2)), .second, .val (.long (q3 - q1)), .second, .val (.long (q2 ^^^ q3)), .second, .val (.int (p4 ^^^ p6)), .val (.int (p5 + p6)), .val (.ref b1), .val (.int j10_0), .val (.int j11_0), .unset, .unset, .unset, .unset, .unset, .unset] []))
      refine Goes.pre (fun t kt => XS.iload X8.here hx rfl (hb hby at_120) rfl kt) ?_
      show Goes p e below s _ _ _ (T8.setTop (mkF m 122 #[.val (.long q1), .second, .val (.long q2), .second, .val (.long q3), .second, .val (.int p4), .val (.int p5), .val (.int p6), .val (.int (p5.toInt16.toInt32)), .val (.int (((p5.toUInt32 >>> ((16 : Int32) &&& 31).toUInt32).toInt32).toInt16.toInt32)), .val (.long (q1 - q2)), .second, .val (.long (q3 - q1)), .second, .val (.long (q2 ^^^ q3)), .second, .val (.int (p4 ^^^ p6)), .val (.int (p5 + p6)), .val (.ref b1), .val (.int j10_0), .val (.int j11_0), .unset, .unset, .unset, .unset, .unset, .unset] [(.int (p5.toInt16.toInt32))]))
      refine Goes.pre (fun t kt => XS.bipush X8.here hx rfl (hb hby at_122) kt) ?_
      show Goes p e below s _ _ _ (T8.setTop (mkF m 124 #[.val (.long q1), .second, .val (.long q2), .second, .val (.long q3), .second, .val (.int p4), .val (.int p5), .val (.int p6), .val (.int (p5.toInt16.toInt32)), .val (.int (((p5.toUInt32 >>> ((16 : Int32) &&& 31).toUInt32).toInt32).toInt16.toInt32)), .val (.long (q1 - q2)), .second, .val (.long (q3 - q1)), .second, .val (.long (q2 ^^^ q3)), .second, .val (.int (p4 ^^^ p6)), .val (.int (p5 + p6)), .val (.ref b1), .val (.int j10_0), .val (.int j11_0), .unset, .unset, .unset, .unset, .unset, .unset] [(.int (16 : Int32)), (.int (p5.toInt16.toInt32))]))
      refine Goes.pre (fun t kt => XS.iand X8.here hx rfl (hb hby at_124) rfl kt) ?_
      show Goes p e below s _ _ _ (T8.setTop (mkF m 125 #[.val (.long q1), .second, .val (.long q2), .second, .val (.long q3), .second, .val (.int p4), .val (.int p5), .val (.int p6), .val (.int (p5.toInt16.toInt32)), .val (.int (((p5.toUInt32 >>> ((16 : Int32) &&& 31).toUInt32).toInt32).toInt16.toInt32)), .val (.long (q1 - q2)), .second, .val (.long (q3 - q1)), .second, .val (.long (q2 ^^^ q3)), .second, .val (.int (p4 ^^^ p6)), .val (.int (p5 + p6)), .val (.ref b1), .val (.int j10_0), .val (.int j11_0), .unset, .unset, .unset, .unset, .unset, .unset] [(.int ((p5.toInt16.toInt32) &&& (16 : Int32)))]))
      have J12 : ∀ (j12_0 : Int32), (j12_0 = own_bit (p5.toInt16.toInt32) 16) → Goes p e below s (Q_rm0 Z q1 q2 q3 p4 p5 p6 w1 h0 n0) room_1.cells room_1.slots (T8.setTop (mkF m 133 #[.val (.long q1), .second, .val (.long q2), .second, .val (.long q3), .second, .val (.int p4), .val (.int p5), .val (.int p6), .val (.int (p5.toInt16.toInt32)), .val (.int (((p5.toUInt32 >>> ((16 : Int32) &&& 31).toUInt32).toInt32).toInt16.toInt32)), .val (.long (q1 - q2)), .second, .val (.long (q3 - q1)), .second, .val (.long (q2 ^^^ q3)), .second, .val (.int (p4 ^^^ p6)), .val (.int (p5 + p6)), .val (.ref b1), .val (.int j10_0), .val (.int j11_0), .unset, .unset, .unset, .unset, .unset, .unset] [(.int j12_0)])) := by
        intro j12_0 hz3
        refine Goes.pre (fun t kt => XS.istore X8.here hx rfl (hb hby at_133) rfl (l' := #[.val (.long q1), .second, .val (.long q2), .second, .val (.long q3), .second, .val (.int p4), .val (.int p5), .val (.int p6), .val (.int (p5.toInt16.toInt32)), .val (.int (((p5.toUInt32 >>> ((16 : Int32) &&& 31).toUInt32).toInt32).toInt16.toInt32)), .val (.long (q1 - q2)), .second, .val (.long (q3 - q1)), .second, .val (.long (q2 ^^^ q3)), .second, .val (.int (p4 ^^^ p6)), .val (.int (p5 + p6)), .val (.ref b1), .val (.int j10_0), .val (.int j11_0), .val (.int j12_0), .unset, .unset, .unset, .unset, .unset]) rfl kt) ?_
        show Goes p e below s _ _ _ (T8.setTop (mkF m 135 #[.val (.long q1), .second, .val (.long q2), .second, .val (.long q3), .second, .val (.int p4), .val (.int p5), .val (.int p6), .val (.int (p5.toInt16.toInt32)), .val (.int (((p5.toUInt32 >>> ((16 : Int32) &&& 31).toUInt32).toInt32).toInt16.toInt32)), .val (.long (q1 - q2)), .second, .val (.long (q3 - q1)), .second, .val (.long (q2 ^^^ q3)), .second, .val (.int (p4 ^^^ p6)), .val (.int (p5 + p6)), .val (.ref b1), .val (.int j10_0), .val (.int j11_0), .val (.int j12_0), .unset, .unset, .unset, .unset, .unset] []))
        refine Goes.pre (fun t kt => XS.aload X8.here hx rfl (hb hby at_135) rfl rfl kt) ?_
        show Goes p e below s _ _ _ (T8.setTop (mkF m 137 #[.val (.long q1), .second, .val (.long q2), .second, .val (.long q3), .second, .val (.int p4), .val (.int p5), .val (.int p6), .val (.int (p5.toInt16.toInt32)), .val (.int (((p5.toUInt32 >>> ((16 : Int32) &&& 31).toUInt32).toInt32).toInt16.toInt32)), .val (.long (q1 - q2)), .second, .val (.long (q3 - q1)), .second, .val (.long (q2 ^^^ q3)), .second, .val (.int (p4 ^^^ p6)), .val (.int (p5 + p6)), .val (.ref b1), .val (.int j10_0), .val (.int j11_0), .val (.int j12_0), .unset, .unset, .unset, .unset, .unset] [(.ref b1)]))
        have fc15 : Exa Z h8 b1 "com/example/seqlint/seqlint/kafka/Batch" := (fc7.keep Kq8)
        obtain ⟨cq14, kq14, qa14, qb14, qc14⟩ := isOf hZ e8 fc15
        obtain ⟨_, _, ⟨T13, L13, k13, n13⟩, -, X13, ⟨Lc13, hQ13, l13, y13, z13⟩, st13⟩ := X8.virtualBack hx (y := (⟨"com/example/seqlint/seqlint/kafka/Batch", "position", "()J"⟩ : MethodName)) (z := (⟨"com/example/seqlint/seqlint/kafka/Batch", "position", "()J"⟩ : MethodName)) hown (mvT hZ (hw _ (List.mem_of_getElem? (i := 52) rfl))) (mvT hZ (hw _ (List.mem_of_getElem? (i := 53) rfl))) (notFace_of_selects (args := #[]) (mvT hZ (hw _ (List.mem_of_getElem? (i := 55) rfl)))) (mvT hZ (hw _ (List.mem_of_getElem? (i := 55) rfl))) (mvT hZ (hw _ (List.mem_of_getElem? (i := 54) rfl))) (by decide) (backOf (W := 0) (rm5 l Z a0 hw [] b1 q1 h8 n0 Z8 pq8_0) hZ (hw _ (List.mem_of_getElem? (i := 56) rfl)) (hw _ (List.mem_of_getElem? (i := 2) rfl)) (by decide) (by decide)) qa14 qc14 (g := (mkF m 137 #[.val (.long q1), .second, .val (.long q2), .second, .val (.long q3), .second, .val (.int p4), .val (.int p5), .val (.int p6), .val (.int (p5.toInt16.toInt32)), .val (.int (((p5.toUInt32 >>> ((16 : Int32) &&& 31).toUInt32).toInt32).toInt16.toInt32)), .val (.long (q1 - q2)), .second, .val (.long (q3 - q1)), .second, .val (.long (q2 ^^^ q3)), .second, .val (.int (p4 ^^^ p6)), .val (.int (p5 + p6)), .val (.ref b1), .val (.int j10_0), .val (.int j11_0), .val (.int j12_0), .unset, .unset, .unset, .unset, .unset] [(.ref b1)])) rfl (by rw [hml]; rfl) (Steps.refl _) (argsL := []) (rest := []) (lenOf pd_6 rfl) rfl (by show 2 * 0 + _ ≤ _; exact Nat.le_of_eq rfl) (hb hby at_137) (fun _ _ => ⟨rfl, e8, (by decide : 1 + 0 ≤ _), (by decide : 14 + 0 ≤ _)⟩)
        dsimp only [Pt.U, Pt.locs, Pt.cells, Pt.slots] at X13 l13 y13 z13 st13 hQ13
        subst l13 y13 z13
        obtain ⟨rfl, Nq13, eq13⟩ := hQ13
        refine Goes.run st13 ?_
        have N13 := Fr.app N8 Nq13
        show Goes p e below s _ _ _ (T13.setTop (mkF m 140 #[.val (.long q1), .second, .val (.long q2), .second, .val (.long q3), .second, .val (.int p4), .val (.int p5), .val (.int p6), .val (.int (p5.toInt16.toInt32)), .val (.int (((p5.toUInt32 >>> ((16 : Int32) &&& 31).toUInt32).toInt32).toInt16.toInt32)), .val (.long (q1 - q2)), .second, .val (.long (q3 - q1)), .second, .val (.long (q2 ^^^ q3)), .second, .val (.int (p4 ^^^ p6)), .val (.int (p5 + p6)), .val (.ref b1), .val (.int j10_0), .val (.int j11_0), .val (.int j12_0), .unset, .unset, .unset, .unset, .unset] [(.long q1)]))
        refine Goes.pre (fun t kt => XS.lloadN X13.here hx rfl (hb hby at_140) rfl kt) ?_
        show Goes p e below s _ _ _ (T13.setTop (mkF m 141 #[.val (.long q1), .second, .val (.long q2), .second, .val (.long q3), .second, .val (.int p4), .val (.int p5), .val (.int p6), .val (.int (p5.toInt16.toInt32)), .val (.int (((p5.toUInt32 >>> ((16 : Int32) &&& 31).toUInt32).toInt32).toInt16.toInt32)), .val (.long (q1 - q2)), .second, .val (.long (q3 - q1)), .second, .val (.long (q2 ^^^ q3)), .second, .val (.int (p4 ^^^ p6)), .val (.int (p5 + p6)), .val (.ref b1), .val (.int j10_0), .val (.int j11_0), .val (.int j12_0), .unset, .unset, .unset, .unset, .unset] [(.long q1), (.long q1)]))
        refine Goes.pre (fun t kt => XS.lcmp X13.here hx rfl (hb hby at_141) rfl kt) ?_
        show Goes p e below s _ _ _ (T13.setTop (mkF m 142 #[.val (.long q1), .second, .val (.long q2), .second, .val (.long q3), .second, .val (.int p4), .val (.int p5), .val (.int p6), .val (.int (p5.toInt16.toInt32)), .val (.int (((p5.toUInt32 >>> ((16 : Int32) &&& 31).toUInt32).toInt32).toInt16.toInt32)), .val (.long (q1 - q2)), .second, .val (.long (q3 - q1)), .second, .val (.long (q2 ^^^ q3)), .second, .val (.int (p4 ^^^ p6)), .val (.int (p5 + p6)), .val (.ref b1), .val (.int j10_0), .val (.int j11_0), .val (.int j12_0), .unset, .unset, .unset, .unset, .unset] [(.int (lcmpW q1 q1))]))
        refine Goes.pre (fun t kt => XS.ifNo X13.here hx rfl (hb hby at_142) rfl (Jvm.Free.XT.i0_ne_f ((lw_eq _ _).mpr rfl)) kt) ?_
        show Goes p e below s _ _ _ (T13.setTop (mkF m 145 #[.val (.long q1), .second, .val (.long q2), .second, .val (.long q3), .second, .val (.int p4), .val (.int p5), .val (.int p6), .val (.int (p5.toInt16.toInt32)), .val (.int (((p5.toUInt32 >>> ((16 : Int32) &&& 31).toUInt32).toInt32).toInt16.toInt32)), .val (.long (q1 - q2)), .second, .val (.long (q3 - q1)), .second, .val (.long (q2 ^^^ q3)), .second, .val (.int (p4 ^^^ p6)), .val (.int (p5 + p6)), .val (.ref b1), .val (.int j10_0), .val (.int j11_0), .val (.int j12_0), .unset, .unset, .unset, .unset, .unset] []))
        refine Goes.pre (fun t kt => XS.aload X13.here hx rfl (hb hby at_145) rfl rfl kt) ?_
        show Goes p e below s _ _ _ (T13.setTop (mkF m 147 #[.val (.long q1), .second, .val (.long q2), .second, .val (.long q3), .second, .val (.int p4), .val (.int p5), .val (.int p6), .val (.int (p5.toInt16.toInt32)), .val (.int (((p5.toUInt32 >>> ((16 : Int32) &&& 31).toUInt32).toInt32).toInt16.toInt32)), .val (.long (q1 - q2)), .second, .val (.long (q3 - q1)), .second, .val (.long (q2 ^^^ q3)), .second, .val (.int (p4 ^^^ p6)), .val (.int (p5 + p6)), .val (.ref b1), .val (.int j10_0), .val (.int j11_0), .val (.int j12_0), .unset, .unset, .unset, .unset, .unset] [(.ref b1)]))
        obtain ⟨cq17, kq17, qa17, qb17, qc17⟩ := isOf hZ eq13 fc15
        obtain ⟨_, _, ⟨T16, L16, k16, n16⟩, -, X16, ⟨Lc16, hQ16, l16, y16, z16⟩, st16⟩ := X13.virtualBack hx (y := (⟨"com/example/seqlint/seqlint/kafka/Batch", "baseOffset", "()J"⟩ : MethodName)) (z := (⟨"com/example/seqlint/seqlint/kafka/Batch", "baseOffset", "()J"⟩ : MethodName)) hown (mvT hZ (hw _ (List.mem_of_getElem? (i := 57) rfl))) (mvT hZ (hw _ (List.mem_of_getElem? (i := 58) rfl))) (notFace_of_selects (args := #[]) (mvT hZ (hw _ (List.mem_of_getElem? (i := 60) rfl)))) (mvT hZ (hw _ (List.mem_of_getElem? (i := 60) rfl))) (mvT hZ (hw _ (List.mem_of_getElem? (i := 59) rfl))) (by decide) (backOf (W := 0) (rm6 l Z a0 hw [] b1 q2 h8 n0 Z8 pq8_1) hZ (hw _ (List.mem_of_getElem? (i := 61) rfl)) (hw _ (List.mem_of_getElem? (i := 2) rfl)) (by decide) (by decide)) qa17 qc17 (g := (mkF m 147 #[.val (.long q1), .second, .val (.long q2), .second, .val (.long q3), .second, .val (.int p4), .val (.int p5), .val (.int p6), .val (.int (p5.toInt16.toInt32)), .val (.int (((p5.toUInt32 >>> ((16 : Int32) &&& 31).toUInt32).toInt32).toInt16.toInt32)), .val (.long (q1 - q2)), .second, .val (.long (q3 - q1)), .second, .val (.long (q2 ^^^ q3)), .second, .val (.int (p4 ^^^ p6)), .val (.int (p5 + p6)), .val (.ref b1), .val (.int j10_0), .val (.int j11_0), .val (.int j12_0), .unset, .unset, .unset, .unset, .unset] [(.ref b1)])) rfl (by rw [hml]; rfl) (Steps.refl _) (argsL := []) (rest := []) (lenOf pd_6 rfl) rfl (by show 2 * 0 + _ ≤ _; exact Nat.le_of_eq rfl) (hb hby at_147) (fun _ _ => ⟨rfl, eq13, (by decide : 1 + 0 ≤ _), (by decide : 14 + 0 ≤ _)⟩)
        dsimp only [Pt.U, Pt.locs, Pt.cells, Pt.slots] at X16 l16 y16 z16 st16 hQ16
        subst l16 y16 z16
        obtain ⟨rfl, Nq16, eq16⟩ := hQ16
        refine Goes.run st16 ?_
        have N16 := Fr.app N13 Nq16
        show Goes p e below s _ _ _ (T16.setTop (mkF m 150 #[.val (.long q1), .second, .val (.long q2), .second, .val (.long q3), .second, .val (.int p4), .val (.int p5), .val (.int p6), .val (.int (p5.toInt16.toInt32)), .val (.int (((p5.toUInt32 >>> ((16 : Int32) &&& 31).toUInt32).toInt32).toInt16.toInt32)), .val (.long (q1 - q2)), .second, .val (.long (q3 - q1)), .second, .val (.long (q2 ^^^ q3)), .second, .val (.int (p4 ^^^ p6)), .val (.int (p5 + p6)), .val (.ref b1), .val (.int j10_0), .val (.int j11_0), .val (.int j12_0), .unset, .unset, .unset, .unset, .unset] [(.long q2)]))
        refine Goes.pre (fun t kt => XS.lloadN X16.here hx rfl (hb hby at_150) rfl kt) ?_
        show Goes p e below s _ _ _ (T16.setTop (mkF m 151 #[.val (.long q1), .second, .val (.long q2), .second, .val (.long q3), .second, .val (.int p4), .val (.int p5), .val (.int p6), .val (.int (p5.toInt16.toInt32)), .val (.int (((p5.toUInt32 >>> ((16 : Int32) &&& 31).toUInt32).toInt32).toInt16.toInt32)), .val (.long (q1 - q2)), .second, .val (.long (q3 - q1)), .second, .val (.long (q2 ^^^ q3)), .second, .val (.int (p4 ^^^ p6)), .val (.int (p5 + p6)), .val (.ref b1), .val (.int j10_0), .val (.int j11_0), .val (.int j12_0), .unset, .unset, .unset, .unset, .unset] [(.long q2), (.long q2)]))
        refine Goes.pre (fun t kt => XS.lcmp X16.here hx rfl (hb hby at_151) rfl kt) ?_
        show Goes p e below s _ _ _ (T16.setTop (mkF m 152 #[.val (.long q1), .second, .val (.long q2), .second, .val (.long q3), .second, .val (.int p4), .val (.int p5), .val (.int p6), .val (.int (p5.toInt16.toInt32)), .val (.int (((p5.toUInt32 >>> ((16 : Int32) &&& 31).toUInt32).toInt32).toInt16.toInt32)), .val (.long (q1 - q2)), .second, .val (.long (q3 - q1)), .second, .val (.long (q2 ^^^ q3)), .second, .val (.int (p4 ^^^ p6)), .val (.int (p5 + p6)), .val (.ref b1), .val (.int j10_0), .val (.int j11_0), .val (.int j12_0), .unset, .unset, .unset, .unset, .unset] [(.int (lcmpW q2 q2))]))
        refine Goes.pre (fun t kt => XS.ifNo X16.here hx rfl (hb hby at_152) rfl (Jvm.Free.XT.i0_ne_f ((lw_eq _ _).mpr rfl)) kt) ?_
        show Goes p e below s _ _ _ (T16.setTop (mkF m 155 #[.val (.long q1), .second, .val (.long q2), .second, .val (.long q3), .second, .val (.int p4), .val (.int p5), .val (.int p6), .val (.int (p5.toInt16.toInt32)), .val (.int (((p5.toUInt32 >>> ((16 : Int32) &&& 31).toUInt32).toInt32).toInt16.toInt32)), .val (.long (q1 - q2)), .second, .val (.long (q3 - q1)), .second, .val (.long (q2 ^^^ q3)), .second, .val (.int (p4 ^^^ p6)), .val (.int (p5 + p6)), .val (.ref b1), .val (.int j10_0), .val (.int j11_0), .val (.int j12_0), .unset, .unset, .unset, .unset, .unset] []))
        refine Goes.pre (fun t kt => XS.aload X16.here hx rfl (hb hby at_155) rfl rfl kt) ?_
        show Goes p e below s _ _ _ (T16.setTop (mkF m 157 #[.val (.long q1), .second, .val (.long q2), .second, .val (.long q3), .second, .val (.int p4), .val (.int p5), .val (.int p6), .val (.int (p5.toInt16.toInt32)), .val (.int (((p5.toUInt32 >>> ((16 : Int32) &&& 31).toUInt32).toInt32).toInt16.toInt32)), .val (.long (q1 - q2)), .second, .val (.long (q3 - q1)), .second, .val (.long (q2 ^^^ q3)), .second, .val (.int (p4 ^^^ p6)), .val (.int (p5 + p6)), .val (.ref b1), .val (.int j10_0), .val (.int j11_0), .val (.int j12_0), .unset, .unset, .unset, .unset, .unset] [(.ref b1)]))
        obtain ⟨cq19, kq19, qa19, qb19, qc19⟩ := isOf hZ eq16 fc15
        obtain ⟨_, _, ⟨T18, L18, k18, n18⟩, -, X18, ⟨Lc18, hQ18, l18, y18, z18⟩, st18⟩ := X16.virtualBack hx (y := (⟨"com/example/seqlint/seqlint/kafka/Batch", "leaderEpoch", "()I"⟩ : MethodName)) (z := (⟨"com/example/seqlint/seqlint/kafka/Batch", "leaderEpoch", "()I"⟩ : MethodName)) hown (mvT hZ (hw _ (List.mem_of_getElem? (i := 62) rfl))) (mvT hZ (hw _ (List.mem_of_getElem? (i := 63) rfl))) (notFace_of_selects (args := #[]) (mvT hZ (hw _ (List.mem_of_getElem? (i := 65) rfl)))) (mvT hZ (hw _ (List.mem_of_getElem? (i := 65) rfl))) (mvT hZ (hw _ (List.mem_of_getElem? (i := 64) rfl))) (by decide) (backOf (W := 0) (rm7 l Z a0 hw [] b1 p4 h8 n0 Z8 pq8_2) hZ (hw _ (List.mem_of_getElem? (i := 66) rfl)) (hw _ (List.mem_of_getElem? (i := 2) rfl)) (by decide) (by decide)) qa19 qc19 (g := (mkF m 157 #[.val (.long q1), .second, .val (.long q2), .second, .val (.long q3), .second, .val (.int p4), .val (.int p5), .val (.int p6), .val (.int (p5.toInt16.toInt32)), .val (.int (((p5.toUInt32 >>> ((16 : Int32) &&& 31).toUInt32).toInt32).toInt16.toInt32)), .val (.long (q1 - q2)), .second, .val (.long (q3 - q1)), .second, .val (.long (q2 ^^^ q3)), .second, .val (.int (p4 ^^^ p6)), .val (.int (p5 + p6)), .val (.ref b1), .val (.int j10_0), .val (.int j11_0), .val (.int j12_0), .unset, .unset, .unset, .unset, .unset] [(.ref b1)])) rfl (by rw [hml]; rfl) (Steps.refl _) (argsL := []) (rest := []) (lenOf pd_7 rfl) rfl (by show 2 * 0 + _ ≤ _; exact Nat.le_of_eq rfl) (hb hby at_157) (fun _ _ => ⟨rfl, eq16, (by decide : 1 + 0 ≤ _), (by decide : 14 + 0 ≤ _)⟩)
        dsimp only [Pt.U, Pt.locs, Pt.cells, Pt.slots] at X18 l18 y18 z18 st18 hQ18
        subst l18 y18 z18
        obtain ⟨rfl, Nq18, eq18⟩ := hQ18
        refine Goes.run st18 ?_
        have N18 := Fr.app N16 Nq18
        show Goes p e below s _ _ _ (T18.setTop (mkF m 160 #[.val (.long q1), .second, .val (.long q2), .second, .val (.long q3), .second, .val (.int p4), .val (.int p5), .val (.int p6), .val (.int (p5.toInt16.toInt32)), .val (.int (((p5.toUInt32 >>> ((16 : Int32) &&& 31).toUInt32).toInt32).toInt16.toInt32)), .val (.long (q1 - q2)), .second, .val (.long (q3 - q1)), .second, .val (.long (q2 ^^^ q3)), .second, .val (.int (p4 ^^^ p6)), .val (.int (p5 + p6)), .val (.ref b1), .val (.int j10_0), .val (.int j11_0), .val (.int j12_0), .unset, .unset, .unset, .unset, .unset] [(.int p4)]))
        refine Goes.pre (fun t kt => XS.iload X18.here hx rfl (hb hby at_160) rfl kt) ?_
        show Goes p e below s _ _ _ (T18.setTop (mkF m 162 #[.val (.long q1), .second, .val (.long q2), .second, .val (.long q3), .second, .val (.int p4), .val (.int p5), .val (.int p6), .val (.int (p5.toInt16.toInt32)), .val (.int (((p5.toUInt32 >>> ((16 : Int32) &&& 31).toUInt32).toInt32).toInt16.toInt32)), .val (.long (q1 - q2)), .second, .val (.long (q3 - q1)), .second, .val (.long (q2 ^^^ q3)), .second, .val (.int (p4 ^^^ p6)), .val (.int (p5 + p6)), .val (.ref b1), .val (.int j10_0), .val (.int j11_0), .val (.int j12_0), .unset, .unset, .unset, .unset, .unset] [(.int p4), (.int p4)]))
        refine Goes.pre (fun t kt => XS.icmpNo X18.here hx rfl (hb hby at_162) rfl (Jvm.Free.XT.ii_ne_f (rfl)) kt) ?_
        show Goes p e below s _ _ _ (T18.setTop (mkF m 165 #[.val (.long q1), .second, .val (.long q2), .second, .val (.long q3), .second, .val (.int p4), .val (.int p5), .val (.int p6), .val (.int (p5.toInt16.toInt32)), .val (.int (((p5.toUInt32 >>> ((16 : Int32) &&& 31).toUInt32).toInt32).toInt16.toInt32)), .val (.long (q1 - q2)), .second, .val (.long (q3 - q1)), .second, .val (.long (q2 ^^^ q3)), .second, .val (.int (p4 ^^^ p6)), .val (.int (p5 + p6)), .val (.ref b1), .val (.int j10_0), .val (.int j11_0), .val (.int j12_0), .unset, .unset, .unset, .unset, .unset] []))
        refine Goes.pre (fun t kt => XS.aload X18.here hx rfl (hb hby at_165) rfl rfl kt) ?_
        show Goes p e below s _ _ _ (T18.setTop (mkF m 167 #[.val (.long q1), .second, .val (.long q2), .second, .val (.long q3), .second, .val (.int p4), .val (.int p5), .val (.int p6), .val (.int (p5.toInt16.toInt32)), .val (.int (((p5.toUInt32 >>> ((16 : Int32) &&& 31).toUInt32).toInt32).toInt16.toInt32)), .val (.long (q1 - q2)), .second, .val (.long (q3 - q1)), .second, .val (.long (q2 ^^^ q3)), .second, .val (.int (p4 ^^^ p6)), .val (.int (p5 + p6)), .val (.ref b1), .val (.int j10_0), .val (.int j11_0), .val (.int j12_0), .unset, .unset, .unset, .unset, .unset] [(.ref b1)]))
        obtain ⟨cq21, kq21, qa21, qb21, qc21⟩ := isOf hZ eq18 fc15
        obtain ⟨_, _, ⟨T20, L20, k20, n20⟩, -, X20, ⟨Lc20, hQ20, l20, y20, z20⟩, st20⟩ := X18.virtualBack hx (y := (⟨"com/example/seqlint/seqlint/kafka/Batch", "storedCrc", "()J"⟩ : MethodName)) (z := (⟨"com/example/seqlint/seqlint/kafka/Batch", "storedCrc", "()J"⟩ : MethodName)) hown (mvT hZ (hw _ (List.mem_of_getElem? (i := 67) rfl))) (mvT hZ (hw _ (List.mem_of_getElem? (i := 68) rfl))) (notFace_of_selects (args := #[]) (mvT hZ (hw _ (List.mem_of_getElem? (i := 70) rfl)))) (mvT hZ (hw _ (List.mem_of_getElem? (i := 70) rfl))) (mvT hZ (hw _ (List.mem_of_getElem? (i := 69) rfl))) (by decide) (backOf (W := 0) (rm8 l Z a0 hw [] b1 q3 h8 n0 Z8 pq8_3) hZ (hw _ (List.mem_of_getElem? (i := 71) rfl)) (hw _ (List.mem_of_getElem? (i := 2) rfl)) (by decide) (by decide)) qa21 qc21 (g := (mkF m 167 #[.val (.long q1), .second, .val (.long q2), .second, .val (.long q3), .second, .val (.int p4), .val (.int p5), .val (.int p6), .val (.int (p5.toInt16.toInt32)), .val (.int (((p5.toUInt32 >>> ((16 : Int32) &&& 31).toUInt32).toInt32).toInt16.toInt32)), .val (.long (q1 - q2)), .second, .val (.long (q3 - q1)), .second, .val (.long (q2 ^^^ q3)), .second, .val (.int (p4 ^^^ p6)), .val (.int (p5 + p6)), .val (.ref b1), .val (.int j10_0), .val (.int j11_0), .val (.int j12_0), .unset, .unset, .unset, .unset, .unset] [(.ref b1)])) rfl (by rw [hml]; rfl) (Steps.refl _) (argsL := []) (rest := []) (lenOf pd_6 rfl) rfl (by show 2 * 0 + _ ≤ _; exact Nat.le_of_eq rfl) (hb hby at_167) (fun _ _ => ⟨rfl, eq18, (by decide : 1 + 0 ≤ _), (by decide : 14 + 0 ≤ _)⟩)
        dsimp only [Pt.U, Pt.locs, Pt.cells, Pt.slots] at X20 l20 y20 z20 st20 hQ20
        subst l20 y20 z20
        obtain ⟨rfl, Nq20, eq20⟩ := hQ20
        refine Goes.run st20 ?_
        have N20 := Fr.app N18 Nq20
        show Goes p e below s _ _ _ (T20.setTop (mkF m 170 #[.val (.long q1), .second, .val (.long q2), .second, .val (.long q3), .second, .val (.int p4), .val (.int p5), .val (.int p6), .val (.int (p5.toInt16.toInt32)), .val (.int (((p5.toUInt32 >>> ((16 : Int32) &&& 31).toUInt32).toInt32).toInt16.toInt32)), .val (.long (q1 - q2)), .second, .val (.long (q3 - q1)), .second, .val (.long (q2 ^^^ q3)), .second, .val (.int (p4 ^^^ p6)), .val (.int (p5 + p6)), .val (.ref b1), .val (.int j10_0), .val (.int j11_0), .val (.int j12_0), .unset, .unset, .unset, .unset, .unset] [(.long q3)]))
        refine Goes.pre (fun t kt => XS.lload X20.here hx rfl (hb hby at_170) rfl kt) ?_
        show Goes p e below s _ _ _ (T20.setTop (mkF m 172 #[.val (.long q1), .second, .val (.long q2), .second, .val (.long q3), .second, .val (.int p4), .val (.int p5), .val (.int p6), .val (.int (p5.toInt16.toInt32)), .val (.int (((p5.toUInt32 >>> ((16 : Int32) &&& 31).toUInt32).toInt32).toInt16.toInt32)), .val (.long (q1 - q2)), .second, .val (.long (q3 - q1)), .second, .val (.long (q2 ^^^ q3)), .second, .val (.int (p4 ^^^ p6)), .val (.int (p5 + p6)), .val (.ref b1), .val (.int j10_0), .val (.int j11_0), .val (.int j12_0), .unset, .unset, .unset, .unset, .unset] [(.long q3), (.long q3)]))
        refine Goes.pre (fun t kt => XS.lcmp X20.here hx rfl (hb hby at_172) rfl kt) ?_
        show Goes p e below s _ _ _ (T20.setTop (mkF m 173 #[.val (.long q1), .second, .val (.long q2), .second, .val (.long q3), .second, .val (.int p4), .val (.int p5), .val (.int p6), .val (.int (p5.toInt16.toInt32)), .val (.int (((p5.toUInt32 >>> ((16 : Int32) &&& 31).toUInt32).toInt32).toInt16.toInt32)), .val (.long (q1 - q2)), .second, .val (.long (q3 - q1)), .second, .val (.long (q2 ^^^ q3)), .second, .val (.int (p4 ^^^ p6)), .val (.int (p5 + p6)), .val (.ref b1), .val (.int j10_0), .val (.int j11_0), .val (.int j12_0), .unset, .unset, .unset, .unset, .unset] [(.int (lcmpW q3 q3))]))
        refine Goes.pre (fun t kt => XS.ifNo X20.here hx rfl (hb hby at_173) rfl (Jvm.Free.XT.i0_ne_f ((lw_eq _ _).mpr rfl)) kt) ?_
        show Goes p e below s _ _ _ (T20.setTop (mkF m 176 #[.val (.long q1), .second, .val (.long q2), .second, .val (.long q3), .second, .val (.int p4), .val (.int p5), .val (.int p6), .val (.int (p5.toInt16.toInt32)), .val (.int (((p5.toUInt32 >>> ((16 : Int32) &&& 31).toUInt32).toInt32).toInt16.toInt32)), .val (.long (q1 - q2)), .second, .val (.long (q3 - q1)), .second, .val (.long (q2 ^^^ q3)), .second, .val (.int (p4 ^^^ p6)), .val (.int (p5 + p6)), .val (.ref b1), .val (.int j10_0), .val (.int j11_0), .val (.int j12_0), .unset, .unset, .unset, .unset, .unset] []))
        refine Goes.pre (fun t kt => XS.aload X20.here hx rfl (hb hby at_176) rfl rfl kt) ?_
        show Goes p e below s _ _ _ (T20.setTop (mkF m 178 #[.val (.long q1), .second, .val (.long q2), .second, .val (.long q3), .second, .val (.int p4), .val (.int p5), .val (.int p6), .val (.int (p5.toInt16.toInt32)), .val (.int (((p5.toUInt32 >>> ((16 : Int32) &&& 31).toUInt32).toInt32).toInt16.toInt32)), .val (.long (q1 - q2)), .second, .val (.long (q3 - q1)), .second, .val (.long (q2 ^^^ q3)), .second, .val (.int (p4 ^^^ p6)), .val (.int (p5 + p6)), .val (.ref b1), .val (.int j10_0), .val (.int j11_0), .val (.int j12_0), .unset, .unset, .unset, .unset, .unset] [(.ref b1)]))
        obtain ⟨cq23, kq23, qa23, qb23, qc23⟩ := isOf hZ eq20 fc15
        obtain ⟨_, _, ⟨T22, L22, k22, n22⟩, -, X22, ⟨Lc22, hQ22, l22, y22, z22⟩, st22⟩ := X20.virtualBack hx (y := (⟨"com/example/seqlint/seqlint/kafka/Batch", "computedCrc", "()J"⟩ : MethodName)) (z := (⟨"com/example/seqlint/seqlint/kafka/Batch", "computedCrc", "()J"⟩ : MethodName)) hown (mvT hZ (hw _ (List.mem_of_getElem? (i := 72) rfl))) (mvT hZ (hw _ (List.mem_of_getElem? (i := 73) rfl))) (notFace_of_selects (args := #[]) (mvT hZ (hw _ (List.mem_of_getElem? (i := 75) rfl)))) (mvT hZ (hw _ (List.mem_of_getElem? (i := 75) rfl))) (mvT hZ (hw _ (List.mem_of_getElem? (i := 74) rfl))) (by decide) (backOf (W := 0) (rm9 l Z a0 hw [] b1 (-1 : Int64) h8 n0 Z8 pq8_4) hZ (hw _ (List.mem_of_getElem? (i := 76) rfl)) (hw _ (List.mem_of_getElem? (i := 2) rfl)) (by decide) (by decide)) qa23 qc23 (g := (mkF m 178 #[.val (.long q1), .second, .val (.long q2), .second, .val (.long q3), .second, .val (.int p4), .val (.int p5), .val (.int p6), .val (.int (p5.toInt16.toInt32)), .val (.int (((p5.toUInt32 >>> ((16 : Int32) &&& 31).toUInt32).toInt32).toInt16.toInt32)), .val (.long (q1 - q2)), .second, .val (.long (q3 - q1)), .second, .val (.long (q2 ^^^ q3)), .second, .val (.int (p4 ^^^ p6)), .val (.int (p5 + p6)), .val (.ref b1), .val (.int j10_0), .val (.int j11_0), .val (.int j12_0), .unset, .unset, .unset, .unset, .unset] [(.ref b1)])) rfl (by rw [hml]; rfl) (Steps.refl _) (argsL := []) (rest := []) (lenOf pd_6 rfl) rfl (by show 2 * 0 + _ ≤ _; exact Nat.le_of_eq rfl) (hb hby at_178) (fun _ _ => ⟨rfl, eq20, (by decide : 1 + 0 ≤ _), (by decide : 14 + 0 ≤ _)⟩)
        dsimp only [Pt.U, Pt.locs, Pt.cells, Pt.slots] at X22 l22 y22 z22 st22 hQ22
        subst l22 y22 z22
        obtain ⟨rfl, Nq22, eq22⟩ := hQ22
        refine Goes.run st22 ?_
        have N22 := Fr.app N20 Nq22
        show Goes p e below s _ _ _ (T22.setTop (mkF m 181 #[.val (.long q1), .second, .val (.long q2), .second, .val (.long q3), .second, .val (.int p4), .val (.int p5), .val (.int p6), .val (.int (p5.toInt16.toInt32)), .val (.int (((p5.toUInt32 >>> ((16 : Int32) &&& 31).toUInt32).toInt32).toInt16.toInt32)), .val (.long (q1 - q2)), .second, .val (.long (q3 - q1)), .second, .val (.long (q2 ^^^ q3)), .second, .val (.int (p4 ^^^ p6)), .val (.int (p5 + p6)), .val (.ref b1), .val (.int j10_0), .val (.int j11_0), .val (.int j12_0), .unset, .unset, .unset, .unset, .unset] [(.long (-1 : Int64))]))
        refine Goes.pre (X22.ldc2Long hx hown (mvT hZ (hw _ (List.mem_of_getElem? (i := 51) rfl))) (g := (mkF m 181 #[.val (.long q1), .second, .val (.long q2), .second, .val (.long q3), .second, .val (.int p4), .val (.int p5), .val (.int p6), .val (.int (p5.toInt16.toInt32)), .val (.int (((p5.toUInt32 >>> ((16 : Int32) &&& 31).toUInt32).toInt32).toInt16.toInt32)), .val (.long (q1 - q2)), .second, .val (.long (q3 - q1)), .second, .val (.long (q2 ^^^ q3)), .second, .val (.int (p4 ^^^ p6)), .val (.int (p5 + p6)), .val (.ref b1), .val (.int j10_0), .val (.int j11_0), .val (.int j12_0), .unset, .unset, .unset, .unset, .unset] [(.long (-1 : Int64))])) rfl (hb hby at_181)) ?_
        show Goes p e below s _ _ _ (T22.setTop (mkF m 184 #[.val (.long q1), .second, .val (.long q2), .second, .val (.long q3), .second, .val (.int p4), .val (.int p5), .val (.int p6), .val (.int (p5.toInt16.toInt32)), .val (.int (((p5.toUInt32 >>> ((16 : Int32) &&& 31).toUInt32).toInt32).toInt16.toInt32)), .val (.long (q1 - q2)), .second, .val (.long (q3 - q1)), .second, .val (.long (q2 ^^^ q3)), .second, .val (.int (p4 ^^^ p6)), .val (.int (p5 + p6)), .val (.ref b1), .val (.int j10_0), .val (.int j11_0), .val (.int j12_0), .unset, .unset, .unset, .unset, .unset] [(.long (-1 : Int64)), (.long (-1 : Int64))]))
        refine Goes.pre (fun t kt => XS.lcmp X22.here hx rfl (hb hby at_184) rfl kt) ?_
        show Goes p e below s _ _ _ (T22.setTop (mkF m 185 #[.val (.long q1), .second, .val (.long q2), .second, .val (.long q3), .second, .val (.int p4), .val (.int p5), .val (.int p6), .val (.int (p5.toInt16.toInt32)), .val (.int (((p5.toUInt32 >>> ((16 : Int32) &&& 31).toUInt32).toInt32).toInt16.toInt32)), .val (.long (q1 - q2)), .second, .val (.long (q3 - q1)), .second, .val (.long (q2 ^^^ q3)), .second, .val (.int (p4 ^^^ p6)), .val (.int (p5 + p6)), .val (.ref b1), .val (.int j10_0), .val (.int j11_0), .val (.int j12_0), .unset, .unset, .unset, .unset, .unset] [(.int (lcmpW (-1 : Int64) (-1 : Int64)))]))
        refine Goes.pre (fun t kt => XS.ifNo X22.here hx rfl (hb hby at_185) rfl (Jvm.Free.XT.i0_ne_f ((lw_eq _ _).mpr (by decide))) kt) ?_
        show Goes p e below s _ _ _ (T22.setTop (mkF m 188 #[.val (.long q1), .second, .val (.long q2), .second, .val (.long q3), .second, .val (.int p4), .val (.int p5), .val (.int p6), .val (.int (p5.toInt16.toInt32)), .val (.int (((p5.toUInt32 >>> ((16 : Int32) &&& 31).toUInt32).toInt32).toInt16.toInt32)), .val (.long (q1 - q2)), .second, .val (.long (q3 - q1)), .second, .val (.long (q2 ^^^ q3)), .second, .val (.int (p4 ^^^ p6)), .val (.int (p5 + p6)), .val (.ref b1), .val (.int j10_0), .val (.int j11_0), .val (.int j12_0), .unset, .unset, .unset, .unset, .unset] []))
        refine Goes.pre (fun t kt => XS.aload X22.here hx rfl (hb hby at_188) rfl rfl kt) ?_
        show Goes p e below s _ _ _ (T22.setTop (mkF m 190 #[.val (.long q1), .second, .val (.long q2), .second, .val (.long q3), .second, .val (.int p4), .val (.int p5), .val (.int p6), .val (.int (p5.toInt16.toInt32)), .val (.int (((p5.toUInt32 >>> ((16 : Int32) &&& 31).toUInt32).toInt32).toInt16.toInt32)), .val (.long (q1 - q2)), .second, .val (.long (q3 - q1)), .second, .val (.long (q2 ^^^ q3)), .second, .val (.int (p4 ^^^ p6)), .val (.int (p5 + p6)), .val (.ref b1), .val (.int j10_0), .val (.int j11_0), .val (.int j12_0), .unset, .unset, .unset, .unset, .unset] [(.ref b1)]))
        obtain ⟨cq25, kq25, qa25, qb25, qc25⟩ := isOf hZ eq22 fc15
        obtain ⟨_, _, ⟨T24, L24, k24, n24⟩, -, X24, ⟨Lc24, hQ24, l24, y24, z24⟩, st24⟩ := X22.virtualBack hx (y := (⟨"com/example/seqlint/seqlint/kafka/Batch", "marker", "()Lcom/example/seqlint/seqlint/kafka/Batch$Marker;"⟩ : MethodName)) (z := (⟨"com/example/seqlint/seqlint/kafka/Batch", "marker", "()Lcom/example/seqlint/seqlint/kafka/Batch$Marker;"⟩ : MethodName)) hown (mvT hZ (hw _ (List.mem_of_getElem? (i := 77) rfl))) (mvT hZ (hw _ (List.mem_of_getElem? (i := 78) rfl))) (notFace_of_selects (args := #[]) (mvT hZ (hw _ (List.mem_of_getElem? (i := 80) rfl)))) (mvT hZ (hw _ (List.mem_of_getElem? (i := 80) rfl))) (mvT hZ (hw _ (List.mem_of_getElem? (i := 79) rfl))) (by decide) (backOf (W := 0) (rm10 l Z a0 hw [] b1 h8 n0 Z8 pq8_13) hZ (hw _ (List.mem_of_getElem? (i := 81) rfl)) (hw _ (List.mem_of_getElem? (i := 2) rfl)) (by decide) (by decide)) qa25 qc25 (g := (mkF m 190 #[.val (.long q1), .second, .val (.long q2), .second, .val (.long q3), .second, .val (.int p4), .val (.int p5), .val (.int p6), .val (.int (p5.toInt16.toInt32)), .val (.int (((p5.toUInt32 >>> ((16 : Int32) &&& 31).toUInt32).toInt32).toInt16.toInt32)), .val (.long (q1 - q2)), .second, .val (.long (q3 - q1)), .second, .val (.long (q2 ^^^ q3)), .second, .val (.int (p4 ^^^ p6)), .val (.int (p5 + p6)), .val (.ref b1), .val (.int j10_0), .val (.int j11_0), .val (.int j12_0), .unset, .unset, .unset, .unset, .unset] [(.ref b1)])) rfl (by rw [hml]; rfl) (Steps.refl _) (argsL := []) (rest := []) (lenOf pd_8 rfl) rfl (by show 2 * 0 + _ ≤ _; exact Nat.le_of_eq rfl) (hb hby at_190) (fun _ _ => ⟨rfl, eq22, (by decide : 1 + 0 ≤ _), (by decide : 14 + 0 ≤ _)⟩)
        dsimp only [Pt.U, Pt.locs, Pt.cells, Pt.slots] at X24 l24 y24 z24 st24 hQ24
        subst l24 y24 z24
        obtain ⟨rfl, Nq24, eq24⟩ := hQ24
        refine Goes.run st24 ?_
        have N24 := Fr.app N22 Nq24
        show Goes p e below s _ _ _ (T24.setTop (mkF m 193 #[.val (.long q1), .second, .val (.long q2), .second, .val (.long q3), .second, .val (.int p4), .val (.int p5), .val (.int p6), .val (.int (p5.toInt16.toInt32)), .val (.int (((p5.toUInt32 >>> ((16 : Int32) &&& 31).toUInt32).toInt32).toInt16.toInt32)), .val (.long (q1 - q2)), .second, .val (.long (q3 - q1)), .second, .val (.long (q2 ^^^ q3)), .second, .val (.int (p4 ^^^ p6)), .val (.int (p5 + p6)), .val (.ref b1), .val (.int j10_0), .val (.int j11_0), .val (.int j12_0), .unset, .unset, .unset, .unset, .unset] [.null]))
        refine Goes.pre (fun t kt => XS.ifnonnullNo X24.here hx rfl (hb hby at_193) rfl kt) ?_
        show Goes p e below s _ _ _ (T24.setTop (mkF m 196 #[.val (.long q1), .second, .val (.long q2), .second, .val (.long q3), .second, .val (.int p4), .val (.int p5), .val (.int p6), .val (.int (p5.toInt16.toInt32)), .val (.int (((p5.toUInt32 >>> ((16 : Int32) &&& 31).toUInt32).toInt32).toInt16.toInt32)), .val (.long (q1 - q2)), .second, .val (.long (q3 - q1)), .second, .val (.long (q2 ^^^ q3)), .second, .val (.int (p4 ^^^ p6)), .val (.int (p5 + p6)), .val (.ref b1), .val (.int j10_0), .val (.int j11_0), .val (.int j12_0), .unset, .unset, .unset, .unset, .unset] []))
        refine Goes.pre (fun t kt => XS.aload X24.here hx rfl (hb hby at_196) rfl rfl kt) ?_
        show Goes p e below s _ _ _ (T24.setTop (mkF m 198 #[.val (.long q1), .second, .val (.long q2), .second, .val (.long q3), .second, .val (.int p4), .val (.int p5), .val (.int p6), .val (.int (p5.toInt16.toInt32)), .val (.int (((p5.toUInt32 >>> ((16 : Int32) &&& 31).toUInt32).toInt32).toInt16.toInt32)), .val (.long (q1 - q2)), .second, .val (.long (q3 - q1)), .second, .val (.long (q2 ^^^ q3)), .second, .val (.int (p4 ^^^ p6)), .val (.int (p5 + p6)), .val (.ref b1), .val (.int j10_0), .val (.int j11_0), .val (.int j12_0), .unset, .unset, .unset, .unset, .unset] [(.ref b1)]))
        obtain ⟨cq27, kq27, qa27, qb27, qc27⟩ := isOf hZ eq24 fc15
        obtain ⟨_, _, ⟨T26, L26, k26, n26⟩, -, X26, ⟨Lc26, hQ26, l26, y26, z26⟩, st26⟩ := X24.virtualBack hx (y := (⟨"com/example/seqlint/seqlint/kafka/Batch", "producerId", "()J"⟩ : MethodName)) (z := (⟨"com/example/seqlint/seqlint/kafka/Batch", "producerId", "()J"⟩ : MethodName)) hown (mvT hZ (hw _ (List.mem_of_getElem? (i := 82) rfl))) (mvT hZ (hw _ (List.mem_of_getElem? (i := 83) rfl))) (notFace_of_selects (args := #[]) (mvT hZ (hw _ (List.mem_of_getElem? (i := 85) rfl)))) (mvT hZ (hw _ (List.mem_of_getElem? (i := 85) rfl))) (mvT hZ (hw _ (List.mem_of_getElem? (i := 84) rfl))) (by decide) (backOf (W := 0) (rm11 l Z a0 hw [] b1 (q2 ^^^ q3) h8 n0 Z8 pq8_9) hZ (hw _ (List.mem_of_getElem? (i := 86) rfl)) (hw _ (List.mem_of_getElem? (i := 2) rfl)) (by decide) (by decide)) qa27 qc27 (g := (mkF m 198 #[.val (.long q1), .second, .val (.long q2), .second, .val (.long q3), .second, .val (.int p4), .val (.int p5), .val (.int p6), .val (.int (p5.toInt16.toInt32)), .val (.int (((p5.toUInt32 >>> ((16 : Int32) &&& 31).toUInt32).toInt32).toInt16.toInt32)), .val (.long (q1 - q2)), .second, .val (.long (q3 - q1)), .second, .val (.long (q2 ^^^ q3)), .second, .val (.int (p4 ^^^ p6)), .val (.int (p5 + p6)), .val (.ref b1), .val (.int j10_0), .val (.int j11_0), .val (.int j12_0), .unset, .unset, .unset, .unset, .unset] [(.ref b1)])) rfl (by rw [hml]; rfl) (Steps.refl _) (argsL := []) (rest := []) (lenOf pd_6 rfl) rfl (by show 2 * 0 + _ ≤ _; exact Nat.le_of_eq rfl) (hb hby at_198) (fun _ _ => ⟨rfl, eq24, (by decide : 1 + 0 ≤ _), (by decide : 14 + 0 ≤ _)⟩)
        dsimp only [Pt.U, Pt.locs, Pt.cells, Pt.slots] at X26 l26 y26 z26 st26 hQ26
        subst l26 y26 z26
        obtain ⟨rfl, Nq26, eq26⟩ := hQ26
        refine Goes.run st26 ?_
        have N26 := Fr.app N24 Nq26
        show Goes p e below s _ _ _ (T26.setTop (mkF m 201 #[.val (.long q1), .second, .val (.long q2), .second, .val (.long q3), .second, .val (.int p4), .val (.int p5), .val (.int p6), .val (.int (p5.toInt16.toInt32)), .val (.int (((p5.toUInt32 >>> ((16 : Int32) &&& 31).toUInt32).toInt32).toInt16.toInt32)), .val (.long (q1 - q2)), .second, .val (.long (q3 - q1)), .second, .val (.long (q2 ^^^ q3)), .second, .val (.int (p4 ^^^ p6)), .val (.int (p5 + p6)), .val (.ref b1), .val (.int j10_0), .val (.int j11_0), .val (.int j12_0), .unset, .unset, .unset, .unset, .unset] [(.long (q2 ^^^ q3))]))
        refine Goes.pre (fun t kt => XS.lload X26.here hx rfl (hb hby at_201) rfl kt) ?_
        show Goes p e below s _ _ _ (T26.setTop (mkF m 203 #[.val (.long q1), .second, .val (.long q2), .second, .val (.long q3), .second, .val (.int p4), .val (.int p5), .val (.int p6), .val (.int (p5.toInt16.toInt32)), .val (.int (((p5.toUInt32 >>> ((16 : Int32) &&& 31).toUInt32).toInt32).toInt16.toInt32)), .val (.long (q1 - q2)), .second, .val (.long (q3 - q1)), .second, .val (.long (q2 ^^^ q3)), .second, .val (.int (p4 ^^^ p6)), .val (.int (p5 + p6)), .val (.ref b1), .val (.int j10_0), .val (.int j11_0), .val (.int j12_0), .unset, .unset, .unset, .unset, .unset] [(.long (q2 ^^^ q3)), (.long (q2 ^^^ q3))]))
        refine Goes.pre (fun t kt => XS.lcmp X26.here hx rfl (hb hby at_203) rfl kt) ?_
        show Goes p e below s _ _ _ (T26.setTop (mkF m 204 #[.val (.long q1), .second, .val (.long q2), .second, .val (.long q3), .second, .val (.int p4), .val (.int p5), .val (.int p6), .val (.int (p5.toInt16.toInt32)), .val (.int (((p5.toUInt32 >>> ((16 : Int32) &&& 31).toUInt32).toInt32).toInt16.toInt32)), .val (.long (q1 - q2)), .second, .val (.long (q3 - q1)), .second, .val (.long (q2 ^^^ q3)), .second, .val (.int (p4 ^^^ p6)), .val (.int (p5 + p6)), .val (.ref b1), .val (.int j10_0), .val (.int j11_0), .val (.int j12_0), .unset, .unset, .unset, .unset, .unset] [(.int (lcmpW (q2 ^^^ q3) (q2 ^^^ q3)))]))
        refine Goes.pre (fun t kt => XS.ifNo X26.here hx rfl (hb hby at_204) rfl (Jvm.Free.XT.i0_ne_f ((lw_eq _ _).mpr rfl)) kt) ?_
        show Goes p e below s _ _ _ (T26.setTop (mkF m 207 #[.val (.long q1), .second, .val (.long q2), .second, .val (.long q3), .second, .val (.int p4), .val (.int p5), .val (.int p6), .val (.int (p5.toInt16.toInt32)), .val (.int (((p5.toUInt32 >>> ((16 : Int32) &&& 31).toUInt32).toInt32).toInt16.toInt32)), .val (.long (q1 - q2)), .second, .val (.long (q3 - q1)), .second, .val (.long (q2 ^^^ q3)), .second, .val (.int (p4 ^^^ p6)), .val (.int (p5 + p6)), .val (.ref b1), .val (.int j10_0), .val (.int j11_0), .val (.int j12_0), .unset, .unset, .unset, .unset, .unset] []))
        refine Goes.pre (fun t kt => XS.aload X26.here hx rfl (hb hby at_207) rfl rfl kt) ?_
        show Goes p e below s _ _ _ (T26.setTop (mkF m 209 #[.val (.long q1), .second, .val (.long q2), .second, .val (.long q3), .second, .val (.int p4), .val (.int p5), .val (.int p6), .val (.int (p5.toInt16.toInt32)), .val (.int (((p5.toUInt32 >>> ((16 : Int32) &&& 31).toUInt32).toInt32).toInt16.toInt32)), .val (.long (q1 - q2)), .second, .val (.long (q3 - q1)), .second, .val (.long (q2 ^^^ q3)), .second, .val (.int (p4 ^^^ p6)), .val (.int (p5 + p6)), .val (.ref b1), .val (.int j10_0), .val (.int j11_0), .val (.int j12_0), .unset, .unset, .unset, .unset, .unset] [(.ref b1)]))
        obtain ⟨cq29, kq29, qa29, qb29, qc29⟩ := isOf hZ eq26 fc15
        obtain ⟨_, _, ⟨T28, L28, k28, n28⟩, -, X28, ⟨Lc28, hQ28, l28, y28, z28⟩, st28⟩ := X26.virtualBack hx (y := (⟨"com/example/seqlint/seqlint/kafka/Batch", "producerEpoch", "()S"⟩ : MethodName)) (z := (⟨"com/example/seqlint/seqlint/kafka/Batch", "producerEpoch", "()S"⟩ : MethodName)) hown (mvT hZ (hw _ (List.mem_of_getElem? (i := 87) rfl))) (mvT hZ (hw _ (List.mem_of_getElem? (i := 88) rfl))) (notFace_of_selects (args := #[]) (mvT hZ (hw _ (List.mem_of_getElem? (i := 90) rfl)))) (mvT hZ (hw _ (List.mem_of_getElem? (i := 90) rfl))) (mvT hZ (hw _ (List.mem_of_getElem? (i := 89) rfl))) (by decide) (backOf (W := 0) (rm12 l Z a0 hw [] b1 (((p5.toUInt32 >>> ((16 : Int32) &&& 31).toUInt32).toInt32).toInt16.toInt32) h8 n0 Z8 pq8_10) hZ (hw _ (List.mem_of_getElem? (i := 91) rfl)) (hw _ (List.mem_of_getElem? (i := 2) rfl)) (by decide) (by decide)) qa29 qc29 (g := (mkF m 209 #[.val (.long q1), .second, .val (.long q2), .second, .val (.long q3), .second, .val (.int p4), .val (.int p5), .val (.int p6), .val (.int (p5.toInt16.toInt32)), .val (.int (((p5.toUInt32 >>> ((16 : Int32) &&& 31).toUInt32).toInt32).toInt16.toInt32)), .val (.long (q1 - q2)), .second, .val (.long (q3 - q1)), .second, .val (.long (q2 ^^^ q3)), .second, .val (.int (p4 ^^^ p6)), .val (.int (p5 + p6)), .val (.ref b1), .val (.int j10_0), .val (.int j11_0), .val (.int j12_0), .unset, .unset, .unset, .unset, .unset] [(.ref b1)])) rfl (by rw [hml]; rfl) (Steps.refl _) (argsL := []) (rest := []) (lenOf pd_9 rfl) rfl (by show 2 * 0 + _ ≤ _; exact Nat.le_of_eq rfl) (hb hby at_209) (fun _ _ => ⟨rfl, eq26, (by decide : 1 + 0 ≤ _), (by decide : 14 + 0 ≤ _)⟩)
        dsimp only [Pt.U, Pt.locs, Pt.cells, Pt.slots] at X28 l28 y28 z28 st28 hQ28
        subst l28 y28 z28
        obtain ⟨rfl, Nq28, eq28⟩ := hQ28
        refine Goes.run st28 ?_
        have N28 := Fr.app N26 Nq28
        show Goes p e below s _ _ _ (T28.setTop (mkF m 212 #[.val (.long q1), .second, .val (.long q2), .second, .val (.long q3), .second, .val (.int p4), .val (.int p5), .val (.int p6), .val (.int (p5.toInt16.toInt32)), .val (.int (((p5.toUInt32 >>> ((16 : Int32) &&& 31).toUInt32).toInt32).toInt16.toInt32)), .val (.long (q1 - q2)), .second, .val (.long (q3 - q1)), .second, .val (.long (q2 ^^^ q3)), .second, .val (.int (p4 ^^^ p6)), .val (.int (p5 + p6)), .val (.ref b1), .val (.int j10_0), .val (.int j11_0), .val (.int j12_0), .unset, .unset, .unset, .unset, .unset] [(.int ((((p5.toUInt32 >>> ((16 : Int32) &&& 31).toUInt32).toInt32).toInt16.toInt32).toInt16.toInt32))]))
        refine Goes.pre (fun t kt => XS.iload X28.here hx rfl (hb hby at_212) rfl kt) ?_
        show Goes p e below s _ _ _ (T28.setTop (mkF m 214 #[.val (.long q1), .second, .val (.long q2), .second, .val (.long q3), .second, .val (.int p4), .val (.int p5), .val (.int p6), .val (.int (p5.toInt16.toInt32)), .val (.int (((p5.toUInt32 >>> ((16 : Int32) &&& 31).toUInt32).toInt32).toInt16.toInt32)), .val (.long (q1 - q2)), .second, .val (.long (q3 - q1)), .second, .val (.long (q2 ^^^ q3)), .second, .val (.int (p4 ^^^ p6)), .val (.int (p5 + p6)), .val (.ref b1), .val (.int j10_0), .val (.int j11_0), .val (.int j12_0), .unset, .unset, .unset, .unset, .unset] [(.int (((p5.toUInt32 >>> ((16 : Int32) &&& 31).toUInt32).toInt32).toInt16.toInt32)), (.int ((((p5.toUInt32 >>> ((16 : Int32) &&& 31).toUInt32).toInt32).toInt16.toInt32).toInt16.toInt32))]))
        refine Goes.pre (fun t kt => XS.icmpNo X28.here hx rfl (hb hby at_214) rfl (Jvm.Free.XT.ii_ne_f ((own_short _))) kt) ?_
        show Goes p e below s _ _ _ (T28.setTop (mkF m 217 #[.val (.long q1), .second, .val (.long q2), .second, .val (.long q3), .second, .val (.int p4), .val (.int p5), .val (.int p6), .val (.int (p5.toInt16.toInt32)), .val (.int (((p5.toUInt32 >>> ((16 : Int32) &&& 31).toUInt32).toInt32).toInt16.toInt32)), .val (.long (q1 - q2)), .second, .val (.long (q3 - q1)), .second, .val (.long (q2 ^^^ q3)), .second, .val (.int (p4 ^^^ p6)), .val (.int (p5 + p6)), .val (.ref b1), .val (.int j10_0), .val (.int j11_0), .val (.int j12_0), .unset, .unset, .unset, .unset, .unset] []))
        refine Goes.pre (fun t kt => XS.aload X28.here hx rfl (hb hby at_217) rfl rfl kt) ?_
        show Goes p e below s _ _ _ (T28.setTop (mkF m 219 #[.val (.long q1), .second, .val (.long q2), .second, .val (.long q3), .second, .val (.int p4), .val (.int p5), .val (.int p6), .val (.int (p5.toInt16.toInt32)), .val (.int (((p5.toUInt32 >>> ((16 : Int32) &&& 31).toUInt32).toInt32).toInt16.toInt32)), .val (.long (q1 - q2)), .second, .val (.long (q3 - q1)), .second, .val (.long (q2 ^^^ q3)), .second, .val (.int (p4 ^^^ p6)), .val (.int (p5 + p6)), .val (.ref b1), .val (.int j10_0), .val (.int j11_0), .val (.int j12_0), .unset, .unset, .unset, .unset, .unset] [(.ref b1)]))
        obtain ⟨cq31, kq31, qa31, qb31, qc31⟩ := isOf hZ eq28 fc15
        obtain ⟨_, _, ⟨T30, L30, k30, n30⟩, -, X30, ⟨Lc30, hQ30, l30, y30, z30⟩, st30⟩ := X28.virtualBack hx (y := (⟨"com/example/seqlint/seqlint/kafka/Batch", "baseSequence", "()I"⟩ : MethodName)) (z := (⟨"com/example/seqlint/seqlint/kafka/Batch", "baseSequence", "()I"⟩ : MethodName)) hown (mvT hZ (hw _ (List.mem_of_getElem? (i := 92) rfl))) (mvT hZ (hw _ (List.mem_of_getElem? (i := 93) rfl))) (notFace_of_selects (args := #[]) (mvT hZ (hw _ (List.mem_of_getElem? (i := 95) rfl)))) (mvT hZ (hw _ (List.mem_of_getElem? (i := 95) rfl))) (mvT hZ (hw _ (List.mem_of_getElem? (i := 94) rfl))) (by decide) (backOf (W := 0) (rm13 l Z a0 hw [] b1 (p4 ^^^ p6) h8 n0 Z8 pq8_11) hZ (hw _ (List.mem_of_getElem? (i := 96) rfl)) (hw _ (List.mem_of_getElem? (i := 2) rfl)) (by decide) (by decide)) qa31 qc31 (g := (mkF m 219 #[.val (.long q1), .second, .val (.long q2), .second, .val (.long q3), .second, .val (.int p4), .val (.int p5), .val (.int p6), .val (.int (p5.toInt16.toInt32)), .val (.int (((p5.toUInt32 >>> ((16 : Int32) &&& 31).toUInt32).toInt32).toInt16.toInt32)), .val (.long (q1 - q2)), .second, .val (.long (q3 - q1)), .second, .val (.long (q2 ^^^ q3)), .second, .val (.int (p4 ^^^ p6)), .val (.int (p5 + p6)), .val (.ref b1), .val (.int j10_0), .val (.int j11_0), .val (.int j12_0), .unset, .unset, .unset, .unset, .unset] [(.ref b1)])) rfl (by rw [hml]; rfl) (Steps.refl _) (argsL := []) (rest := []) (lenOf pd_7 rfl) rfl (by show 2 * 0 + _ ≤ _; exact Nat.le_of_eq rfl) (hb hby at_219) (fun _ _ => ⟨rfl, eq28, (by decide : 1 + 0 ≤ _), (by decide : 14 + 0 ≤ _)⟩)
        dsimp only [Pt.U, Pt.locs, Pt.cells, Pt.slots] at X30 l30 y30 z30 st30 hQ30
        subst l30 y30 z30
        obtain ⟨rfl, Nq30, eq30⟩ := hQ30
        refine Goes.run st30 ?_
        have N30 := Fr.app N28 Nq30
        show Goes p e below s _ _ _ (T30.setTop (mkF m 222 #[.val (.long q1), .second, .val (.long q2), .second, .val (.long q3), .second, .val (.int p4), .val (.int p5), .val (.int p6), .val (.int (p5.toInt16.toInt32)), .val (.int (((p5.toUInt32 >>> ((16 : Int32) &&& 31).toUInt32).toInt32).toInt16.toInt32)), .val (.long (q1 - q2)), .second, .val (.long (q3 - q1)), .second, .val (.long (q2 ^^^ q3)), .second, .val (.int (p4 ^^^ p6)), .val (.int (p5 + p6)), .val (.ref b1), .val (.int j10_0), .val (.int j11_0), .val (.int j12_0), .unset, .unset, .unset, .unset, .unset] [(.int (p4 ^^^ p6))]))
        refine Goes.pre (fun t kt => XS.iload X30.here hx rfl (hb hby at_222) rfl kt) ?_
        show Goes p e below s _ _ _ (T30.setTop (mkF m 224 #[.val (.long q1), .second, .val (.long q2), .second, .val (.long q3), .second, .val (.int p4), .val (.int p5), .val (.int p6), .val (.int (p5.toInt16.toInt32)), .val (.int (((p5.toUInt32 >>> ((16 : Int32) &&& 31).toUInt32).toInt32).toInt16.toInt32)), .val (.long (q1 - q2)), .second, .val (.long (q3 - q1)), .second, .val (.long (q2 ^^^ q3)), .second, .val (.int (p4 ^^^ p6)), .val (.int (p5 + p6)), .val (.ref b1), .val (.int j10_0), .val (.int j11_0), .val (.int j12_0), .unset, .unset, .unset, .unset, .unset] [(.int (p4 ^^^ p6)), (.int (p4 ^^^ p6))]))
        refine Goes.pre (fun t kt => XS.icmpNo X30.here hx rfl (hb hby at_224) rfl (Jvm.Free.XT.ii_ne_f (rfl)) kt) ?_
        show Goes p e below s _ _ _ (T30.setTop (mkF m 227 #[.val (.long q1), .second, .val (.long q2), .second, .val (.long q3), .second, .val (.int p4), .val (.int p5), .val (.int p6), .val (.int (p5.toInt16.toInt32)), .val (.int (((p5.toUInt32 >>> ((16 : Int32) &&& 31).toUInt32).toInt32).toInt16.toInt32)), .val (.long (q1 - q2)), .second, .val (.long (q3 - q1)), .second, .val (.long (q2 ^^^ q3)), .second, .val (.int (p4 ^^^ p6)), .val (.int (p5 + p6)), .val (.ref b1), .val (.int j10_0), .val (.int j11_0), .val (.int j12_0), .unset, .unset, .unset, .unset, .unset] []))
        refine Goes.pre (fun t kt => XS.aload X30.here hx rfl (hb hby at_227) rfl rfl kt) ?_
        show Goes p e below s _ _ _ (T30.setTop (mkF m 229 #[.val (.long q1), .second, .val (.long q2), .second, .val (.long q3), .second, .val (.int p4), .val (.int p5), .val (.int p6), .val (.int (p5.toInt16.toInt32)), .val (.int (((p5.toUInt32 >>> ((16 : Int32) &&& 31).toUInt32).toInt32).toInt16.toInt32)), .val (.long (q1 - q2)), .second, .val (.long (q3 - q1)), .second, .val (.long (q2 ^^^ q3)), .second, .val (.int (p4 ^^^ p6)), .val (.int (p5 + p6)), .val (.ref b1), .val (.int j10_0), .val (.int j11_0), .val (.int j12_0), .unset, .unset, .unset, .unset, .unset] [(.ref b1)]))
        obtain ⟨cq33, kq33, qa33, qb33, qc33⟩ := isOf hZ eq30 fc15
        obtain ⟨_, _, ⟨T32, L32, k32, n32⟩, -, X32, ⟨Lc32, hQ32, l32, y32, z32⟩, st32⟩ := X30.virtualBack hx (y := (⟨"com/example/seqlint/seqlint/kafka/Batch", "recordCount", "()I"⟩ : MethodName)) (z := (⟨"com/example/seqlint/seqlint/kafka/Batch", "recordCount", "()I"⟩ : MethodName)) hown (mvT hZ (hw _ (List.mem_of_getElem? (i := 97) rfl))) (mvT hZ (hw _ (List.mem_of_getElem? (i := 98) rfl))) (notFace_of_selects (args := #[]) (mvT hZ (hw _ (List.mem_of_getElem? (i := 100) rfl)))) (mvT hZ (hw _ (List.mem_of_getElem? (i := 100) rfl))) (mvT hZ (hw _ (List.mem_of_getElem? (i := 99) rfl))) (by decide) (backOf (W := 0) (rm14 l Z a0 hw [] b1 (p5 + p6) h8 n0 Z8 pq8_12) hZ (hw _ (List.mem_of_getElem? (i := 101) rfl)) (hw _ (List.mem_of_getElem? (i := 2) rfl)) (by decide) (by decide)) qa33 qc33 (g := (mkF m 229 #[.val (.long q1), .second, .val (.long q2), .second, .val (.long q3), .second, .val (.int p4), .val (.int p5), .val (.int p6), .val (.int (p5.toInt16.toInt32)), .val (.int (((p5.toUInt32 >>> ((16 : Int32) &&& 31).toUInt32).toInt32).toInt16.toInt32)), .val (.long (q1 - q2)), .second, .val (.long (q3 - q1)), .second, .val (.long (q2 ^^^ q3)), .second, .val (.int (p4 ^^^ p6)), .val (.int (p5 + p6)), .val (.ref b1), .val (.int j10_0), .val (.int j11_0), .val (.int j12_0), .unset, .unset, .unset, .unset, .unset] [(.ref b1)])) rfl (by rw [hml]; rfl) (Steps.refl _) (argsL := []) (rest := []) (lenOf pd_7 rfl) rfl (by show 2 * 0 + _ ≤ _; exact Nat.le_of_eq rfl) (hb hby at_229) (fun _ _ => ⟨rfl, eq30, (by decide : 1 + 0 ≤ _), (by decide : 14 + 0 ≤ _)⟩)
        dsimp only [Pt.U, Pt.locs, Pt.cells, Pt.slots] at X32 l32 y32 z32 st32 hQ32
        subst l32 y32 z32
        obtain ⟨rfl, Nq32, eq32⟩ := hQ32
        refine Goes.run st32 ?_
        have N32 := Fr.app N30 Nq32
        show Goes p e below s _ _ _ (T32.setTop (mkF m 232 #[.val (.long q1), .second, .val (.long q2), .second, .val (.long q3), .second, .val (.int p4), .val (.int p5), .val (.int p6), .val (.int (p5.toInt16.toInt32)), .val (.int (((p5.toUInt32 >>> ((16 : Int32) &&& 31).toUInt32).toInt32).toInt16.toInt32)), .val (.long (q1 - q2)), .second, .val (.long (q3 - q1)), .second, .val (.long (q2 ^^^ q3)), .second, .val (.int (p4 ^^^ p6)), .val (.int (p5 + p6)), .val (.ref b1), .val (.int j10_0), .val (.int j11_0), .val (.int j12_0), .unset, .unset, .unset, .unset, .unset] [(.int (p5 + p6))]))
        refine Goes.pre (fun t kt => XS.iload X32.here hx rfl (hb hby at_232) rfl kt) ?_
        show Goes p e below s _ _ _ (T32.setTop (mkF m 234 #[.val (.long q1), .second, .val (.long q2), .second, .val (.long q3), .second, .val (.int p4), .val (.int p5), .val (.int p6), .val (.int (p5.toInt16.toInt32)), .val (.int (((p5.toUInt32 >>> ((16 : Int32) &&& 31).toUInt32).toInt32).toInt16.toInt32)), .val (.long (q1 - q2)), .second, .val (.long (q3 - q1)), .second, .val (.long (q2 ^^^ q3)), .second, .val (.int (p4 ^^^ p6)), .val (.int (p5 + p6)), .val (.ref b1), .val (.int j10_0), .val (.int j11_0), .val (.int j12_0), .unset, .unset, .unset, .unset, .unset] [(.int (p5 + p6)), (.int (p5 + p6))]))
        refine Goes.pre (fun t kt => XS.icmpNo X32.here hx rfl (hb hby at_234) rfl (Jvm.Free.XT.ii_ne_f (rfl)) kt) ?_
        show Goes p e below s _ _ _ (T32.setTop (mkF m 237 #[.val (.long q1), .second, .val (.long q2), .second, .val (.long q3), .second, .val (.int p4), .val (.int p5), .val (.int p6), .val (.int (p5.toInt16.toInt32)), .val (.int (((p5.toUInt32 >>> ((16 : Int32) &&& 31).toUInt32).toInt32).toInt16.toInt32)), .val (.long (q1 - q2)), .second, .val (.long (q3 - q1)), .second, .val (.long (q2 ^^^ q3)), .second, .val (.int (p4 ^^^ p6)), .val (.int (p5 + p6)), .val (.ref b1), .val (.int j10_0), .val (.int j11_0), .val (.int j12_0), .unset, .unset, .unset, .unset, .unset] []))
        refine Goes.pre (fun t kt => XS.aload X32.here hx rfl (hb hby at_237) rfl rfl kt) ?_
        show Goes p e below s _ _ _ (T32.setTop (mkF m 239 #[.val (.long q1), .second, .val (.long q2), .second, .val (.long q3), .second, .val (.int p4), .val (.int p5), .val (.int p6), .val (.int (p5.toInt16.toInt32)), .val (.int (((p5.toUInt32 >>> ((16 : Int32) &&& 31).toUInt32).toInt32).toInt16.toInt32)), .val (.long (q1 - q2)), .second, .val (.long (q3 - q1)), .second, .val (.long (q2 ^^^ q3)), .second, .val (.int (p4 ^^^ p6)), .val (.int (p5 + p6)), .val (.ref b1), .val (.int j10_0), .val (.int j11_0), .val (.int j12_0), .unset, .unset, .unset, .unset, .unset] [(.ref b1)]))
        obtain ⟨cq35, kq35, qa35, qb35, qc35⟩ := isOf hZ eq32 fc15
        obtain ⟨_, _, ⟨T34, L34, k34, n34⟩, -, X34, ⟨Lc34, hQ34, l34, y34, z34⟩, st34⟩ := X32.virtualBack hx (y := (⟨"com/example/seqlint/seqlint/kafka/Batch", "lastOffset", "()J"⟩ : MethodName)) (z := (⟨"com/example/seqlint/seqlint/kafka/Batch", "lastOffset", "()J"⟩ : MethodName)) hown (mvT hZ (hw _ (List.mem_of_getElem? (i := 102) rfl))) (mvT hZ (hw _ (List.mem_of_getElem? (i := 103) rfl))) (notFace_of_selects (args := #[]) (mvT hZ (hw _ (List.mem_of_getElem? (i := 105) rfl)))) (mvT hZ (hw _ (List.mem_of_getElem? (i := 105) rfl))) (mvT hZ (hw _ (List.mem_of_getElem? (i := 104) rfl))) (by decide) (backOf (W := 0) (rm15 l Z a0 hw [] b1 q2 p6 h8 n0 Z8 pq8_1 pq8_6) hZ (hw _ (List.mem_of_getElem? (i := 106) rfl)) (hw _ (List.mem_of_getElem? (i := 2) rfl)) (by decide) (by decide)) qa35 qc35 (g := (mkF m 239 #[.val (.long q1), .second, .val (.long q2), .second, .val (.long q3), .second, .val (.int p4), .val (.int p5), .val (.int p6), .val (.int (p5.toInt16.toInt32)), .val (.int (((p5.toUInt32 >>> ((16 : Int32) &&& 31).toUInt32).toInt32).toInt16.toInt32)), .val (.long (q1 - q2)), .second, .val (.long (q3 - q1)), .second, .val (.long (q2 ^^^ q3)), .second, .val (.int (p4 ^^^ p6)), .val (.int (p5 + p6)), .val (.ref b1), .val (.int j10_0), .val (.int j11_0), .val (.int j12_0), .unset, .unset, .unset, .unset, .unset] [(.ref b1)])) rfl (by rw [hml]; rfl) (Steps.refl _) (argsL := []) (rest := []) (lenOf pd_6 rfl) rfl (by show 2 * 0 + _ ≤ _; exact Nat.le_of_eq rfl) (hb hby at_239) (fun _ _ => ⟨rfl, eq32, (by decide : 1 + 0 ≤ _), (by decide : 14 + 0 ≤ _)⟩)
        dsimp only [Pt.U, Pt.locs, Pt.cells, Pt.slots] at X34 l34 y34 z34 st34 hQ34
        subst l34 y34 z34
        obtain ⟨rfl, Nq34, eq34⟩ := hQ34
        refine Goes.run st34 ?_
        have N34 := Fr.app N32 Nq34
        show Goes p e below s _ _ _ (T34.setTop (mkF m 242 #[.val (.long q1), .second, .val (.long q2), .second, .val (.long q3), .second, .val (.int p4), .val (.int p5), .val (.int p6), .val (.int (p5.toInt16.toInt32)), .val (.int (((p5.toUInt32 >>> ((16 : Int32) &&& 31).toUInt32).toInt32).toInt16.toInt32)), .val (.long (q1 - q2)), .second, .val (.long (q3 - q1)), .second, .val (.long (q2 ^^^ q3)), .second, .val (.int (p4 ^^^ p6)), .val (.int (p5 + p6)), .val (.ref b1), .val (.int j10_0), .val (.int j11_0), .val (.int j12_0), .unset, .unset, .unset, .unset, .unset] [(.long (own_lo q2 p6))]))
        refine Goes.pre (fun t kt => XS.lloadN X34.here hx rfl (hb hby at_242) rfl kt) ?_
        show Goes p e below s _ _ _ (T34.setTop (mkF m 243 #[.val (.long q1), .second, .val (.long q2), .second, .val (.long q3), .second, .val (.int p4), .val (.int p5), .val (.int p6), .val (.int (p5.toInt16.toInt32)), .val (.int (((p5.toUInt32 >>> ((16 : Int32) &&& 31).toUInt32).toInt32).toInt16.toInt32)), .val (.long (q1 - q2)), .second, .val (.long (q3 - q1)), .second, .val (.long (q2 ^^^ q3)), .second, .val (.int (p4 ^^^ p6)), .val (.int (p5 + p6)), .val (.ref b1), .val (.int j10_0), .val (.int j11_0), .val (.int j12_0), .unset, .unset, .unset, .unset, .unset] [(.long q2), (.long (own_lo q2 p6))]))
        refine Goes.pre (fun t kt => XS.iload X34.here hx rfl (hb hby at_243) rfl kt) ?_
        show Goes p e below s _ _ _ (T34.setTop (mkF m 245 #[.val (.long q1), .second, .val (.long q2), .second, .val (.long q3), .second, .val (.int p4), .val (.int p5), .val (.int p6), .val (.int (p5.toInt16.toInt32)), .val (.int (((p5.toUInt32 >>> ((16 : Int32) &&& 31).toUInt32).toInt32).toInt16.toInt32)), .val (.long (q1 - q2)), .second, .val (.long (q3 - q1)), .second, .val (.long (q2 ^^^ q3)), .second, .val (.int (p4 ^^^ p6)), .val (.int (p5 + p6)), .val (.ref b1), .val (.int j10_0), .val (.int j11_0), .val (.int j12_0), .unset, .unset, .unset, .unset, .unset] [(.int p6), (.long q2), (.long (own_lo q2 p6))]))
        obtain ⟨_, _, ⟨T36, L36, k36, n36⟩, -, X36, ⟨Lc36, hQ36, l36, y36, z36⟩, st36⟩ := Jvm.LawKit.callS X34 hx (y := (⟨"com/example/seqlint/seqlint/kafka/Batch", "lastOffset", "(JI)J"⟩ : MethodName)) hown (mvT hZ (hw _ (List.mem_of_getElem? (i := 110) rfl))) (mvT hZ (hw _ (List.mem_of_getElem? (i := 108) rfl))) (mvT hZ (hw _ (List.mem_of_getElem? (i := 2) rfl))) (mvT hZ (hw _ (List.mem_of_getElem? (i := 109) rfl))) (by decide) (backOf (W := 2) (rm16 l Z a0 hw [] q2 p6 h8 n0 Z8 ) hZ (hw _ (List.mem_of_getElem? (i := 109) rfl)) (hw _ (List.mem_of_getElem? (i := 2) rfl)) (by decide) (by decide)) (g := (mkF m 245 #[.val (.long q1), .second, .val (.long q2), .second, .val (.long q3), .second, .val (.int p4), .val (.int p5), .val (.int p6), .val (.int (p5.toInt16.toInt32)), .val (.int (((p5.toUInt32 >>> ((16 : Int32) &&& 31).toUInt32).toInt32).toInt16.toInt32)), .val (.long (q1 - q2)), .second, .val (.long (q3 - q1)), .second, .val (.long (q2 ^^^ q3)), .second, .val (.int (p4 ^^^ p6)), .val (.int (p5 + p6)), .val (.ref b1), .val (.int j10_0), .val (.int j11_0), .val (.int j12_0), .unset, .unset, .unset, .unset, .unset] [(.int p6), (.long q2), (.long (own_lo q2 p6))])) rfl (by rw [hml]; rfl) (argsL := [(.long q2), (.int p6)]) (rest := [(.long (own_lo q2 p6))]) (lenOf pd_1 rfl) rfl (by show 2 * 0 + _ ≤ _; exact Nat.le_of_eq rfl) (hb hby at_245) (fun _ _ => ⟨rfl, eq34, (by decide : 1 + 0 ≤ _), (by decide : 14 + 0 ≤ _)⟩)
        dsimp only [Pt.U, Pt.locs, Pt.cells, Pt.slots] at X36 l36 y36 z36 st36 hQ36
        subst l36 y36 z36
        obtain ⟨rfl, Nq36, eq36⟩ := hQ36
        refine Goes.pre st36 ?_
        have N36 := Fr.app N34 Nq36
        show Goes p e below s _ _ _ (T36.setTop (mkF m 248 #[.val (.long q1), .second, .val (.long q2), .second, .val (.long q3), .second, .val (.int p4), .val (.int p5), .val (.int p6), .val (.int (p5.toInt16.toInt32)), .val (.int (((p5.toUInt32 >>> ((16 : Int32) &&& 31).toUInt32).toInt32).toInt16.toInt32)), .val (.long (q1 - q2)), .second, .val (.long (q3 - q1)), .second, .val (.long (q2 ^^^ q3)), .second, .val (.int (p4 ^^^ p6)), .val (.int (p5 + p6)), .val (.ref b1), .val (.int j10_0), .val (.int j11_0), .val (.int j12_0), .unset, .unset, .unset, .unset, .unset] [(.long (own_lo q2 p6)), (.long (own_lo q2 p6))]))
        refine Goes.pre (fun t kt => XS.lcmp X36.here hx rfl (hb hby at_248) rfl kt) ?_
        show Goes p e below s _ _ _ (T36.setTop (mkF m 249 #[.val (.long q1), .second, .val (.long q2), .second, .val (.long q3), .second, .val (.int p4), .val (.int p5), .val (.int p6), .val (.int (p5.toInt16.toInt32)), .val (.int (((p5.toUInt32 >>> ((16 : Int32) &&& 31).toUInt32).toInt32).toInt16.toInt32)), .val (.long (q1 - q2)), .second, .val (.long (q3 - q1)), .second, .val (.long (q2 ^^^ q3)), .second, .val (.int (p4 ^^^ p6)), .val (.int (p5 + p6)), .val (.ref b1), .val (.int j10_0), .val (.int j11_0), .val (.int j12_0), .unset, .unset, .unset, .unset, .unset] [(.int (lcmpW (own_lo q2 p6) (own_lo q2 p6)))]))
        refine Goes.pre (fun t kt => XS.ifNo X36.here hx rfl (hb hby at_249) rfl (Jvm.Free.XT.i0_ne_f ((lw_eq _ _).mpr rfl)) kt) ?_
        show Goes p e below s _ _ _ (T36.setTop (mkF m 252 #[.val (.long q1), .second, .val (.long q2), .second, .val (.long q3), .second, .val (.int p4), .val (.int p5), .val (.int p6), .val (.int (p5.toInt16.toInt32)), .val (.int (((p5.toUInt32 >>> ((16 : Int32) &&& 31).toUInt32).toInt32).toInt16.toInt32)), .val (.long (q1 - q2)), .second, .val (.long (q3 - q1)), .second, .val (.long (q2 ^^^ q3)), .second, .val (.int (p4 ^^^ p6)), .val (.int (p5 + p6)), .val (.ref b1), .val (.int j10_0), .val (.int j11_0), .val (.int j12_0), .unset, .unset, .unset, .unset, .unset] []))
        refine Goes.pre (fun t kt => XS.aload X36.here hx rfl (hb hby at_252) rfl rfl kt) ?_
        show Goes p e below s _ _ _ (T36.setTop (mkF m 254 #[.val (.long q1), .second, .val (.long q2), .second, .val (.long q3), .second, .val (.int p4), .val (.int p5), .val (.int p6), .val (.int (p5.toInt16.toInt32)), .val (.int (((p5.toUInt32 >>> ((16 : Int32) &&& 31).toUInt32).toInt32).toInt16.toInt32)), .val (.long (q1 - q2)), .second, .val (.long (q3 - q1)), .second, .val (.long (q2 ^^^ q3)), .second, .val (.int (p4 ^^^ p6)), .val (.int (p5 + p6)), .val (.ref b1), .val (.int j10_0), .val (.int j11_0), .val (.int j12_0), .unset, .unset, .unset, .unset, .unset] [(.ref b1)]))
        obtain ⟨cq38, kq38, qa38, qb38, qc38⟩ := isOf hZ eq36 fc15
        obtain ⟨_, _, ⟨T37, L37, k37, n37⟩, -, X37, ⟨Lc37, hQ37, l37, y37, z37⟩, st37⟩ := X36.virtualBack hx (y := (⟨"com/example/seqlint/seqlint/kafka/Batch", "isMarker", "()Z"⟩ : MethodName)) (z := (⟨"com/example/seqlint/seqlint/kafka/Batch", "isMarker", "()Z"⟩ : MethodName)) hown (mvT hZ (hw _ (List.mem_of_getElem? (i := 111) rfl))) (mvT hZ (hw _ (List.mem_of_getElem? (i := 112) rfl))) (notFace_of_selects (args := #[]) (mvT hZ (hw _ (List.mem_of_getElem? (i := 114) rfl)))) (mvT hZ (hw _ (List.mem_of_getElem? (i := 114) rfl))) (mvT hZ (hw _ (List.mem_of_getElem? (i := 113) rfl))) (by decide) (backOf (W := 0) (rm17 l Z a0 hw [] b1 (q2 ^^^ q3) (p5.toInt16.toInt32) h8 n0 Z8 pq8_9 pq8_5) hZ (hw _ (List.mem_of_getElem? (i := 115) rfl)) (hw _ (List.mem_of_getElem? (i := 2) rfl)) (by decide) (by decide)) qa38 qc38 (g := (mkF m 254 #[.val (.long q1), .second, .val (.long q2), .second, .val (.long q3), .second, .val (.int p4), .val (.int p5), .val (.int p6), .val (.int (p5.toInt16.toInt32)), .val (.int (((p5.toUInt32 >>> ((16 : Int32) &&& 31).toUInt32).toInt32).toInt16.toInt32)), .val (.long (q1 - q2)), .second, .val (.long (q3 - q1)), .second, .val (.long (q2 ^^^ q3)), .second, .val (.int (p4 ^^^ p6)), .val (.int (p5 + p6)), .val (.ref b1), .val (.int j10_0), .val (.int j11_0), .val (.int j12_0), .unset, .unset, .unset, .unset, .unset] [(.ref b1)])) rfl (by rw [hml]; rfl) (Steps.refl _) (argsL := []) (rest := []) (lenOf pd_2 rfl) rfl (by show 2 * 0 + _ ≤ _; exact Nat.le_of_eq rfl) (hb hby at_254) (fun _ _ => ⟨rfl, eq36, (by decide : 1 + 0 ≤ _), (by decide : 14 + 0 ≤ _)⟩)
        dsimp only [Pt.U, Pt.locs, Pt.cells, Pt.slots] at X37 l37 y37 z37 st37 hQ37
        subst l37 y37 z37
        obtain ⟨rfl, Nq37, eq37⟩ := hQ37
        refine Goes.run st37 ?_
        have N37 := Fr.app N36 Nq37
        show Goes p e below s _ _ _ (T37.setTop (mkF m 257 #[.val (.long q1), .second, .val (.long q2), .second, .val (.long q3), .second, .val (.int p4), .val (.int p5), .val (.int p6), .val (.int (p5.toInt16.toInt32)), .val (.int (((p5.toUInt32 >>> ((16 : Int32) &&& 31).toUInt32).toInt32).toInt16.toInt32)), .val (.long (q1 - q2)), .second, .val (.long (q3 - q1)), .second, .val (.long (q2 ^^^ q3)), .second, .val (.int (p4 ^^^ p6)), .val (.int (p5 + p6)), .val (.ref b1), .val (.int j10_0), .val (.int j11_0), .val (.int j12_0), .unset, .unset, .unset, .unset, .unset] [(.int (own_mk (q2 ^^^ q3) (p5.toInt16.toInt32)))]))
        refine Goes.pre (fun t kt => XS.iload X37.here hx rfl (hb hby at_257) rfl kt) ?_
        show Goes p e below s _ _ _ (T37.setTop (mkF m 259 #[.val (.long q1), .second, .val (.long q2), .second, .val (.long q3), .second, .val (.int p4), .val (.int p5), .val (.int p6), .val (.int (p5.toInt16.toInt32)), .val (.int (((p5.toUInt32 >>> ((16 : Int32) &&& 31).toUInt32).toInt32).toInt16.toInt32)), .val (.long (q1 - q2)), .second, .val (.long (q3 - q1)), .second, .val (.long (q2 ^^^ q3)), .second, .val (.int (p4 ^^^ p6)), .val (.int (p5 + p6)), .val (.ref b1), .val (.int j10_0), .val (.int j11_0), .val (.int j12_0), .unset, .unset, .unset, .unset, .unset] [(.int j10_0), (.int (own_mk (q2 ^^^ q3) (p5.toInt16.toInt32)))]))
        have J39 : ∀ (j39_0 : Int32), (j39_0 = own_mk (q2 ^^^ q3) (p5.toInt16.toInt32)) → Goes p e below s (Q_rm0 Z q1 q2 q3 p4 p5 p6 w1 h0 n0) room_1.cells room_1.slots (T37.setTop (mkF m 272 #[.val (.long q1), .second, .val (.long q2), .second, .val (.long q3), .second, .val (.int p4), .val (.int p5), .val (.int p6), .val (.int (p5.toInt16.toInt32)), .val (.int (((p5.toUInt32 >>> ((16 : Int32) &&& 31).toUInt32).toInt32).toInt16.toInt32)), .val (.long (q1 - q2)), .second, .val (.long (q3 - q1)), .second, .val (.long (q2 ^^^ q3)), .second, .val (.int (p4 ^^^ p6)), .val (.int (p5 + p6)), .val (.ref b1), .val (.int j10_0), .val (.int j11_0), .val (.int j12_0), .unset, .unset, .unset, .unset, .unset] [(.int j39_0), (.int (own_mk (q2 ^^^ q3) (p5.toInt16.toInt32)))])) := by
          intro j39_0 hm
          refine Goes.pre (fun t kt => XS.icmpNo X37.here hx rfl (hb hby at_272) rfl (Jvm.Free.XT.ii_ne_f (hm.symm)) kt) ?_
          show Goes p e below s _ _ _ (T37.setTop (mkF m 275 #[.val (.long q1), .second, .val (.long q2), .second, .val (.long q3), .second, .val (.int p4), .val (.int p5), .val (.int p6), .val (.int (p5.toInt16.toInt32)), .val (.int (((p5.toUInt32 >>> ((16 : Int32) &&& 31).toUInt32).toInt32).toInt16.toInt32)), .val (.long (q1 - q2)), .second, .val (.long (q3 - q1)), .second, .val (.long (q2 ^^^ q3)), .second, .val (.int (p4 ^^^ p6)), .val (.int (p5 + p6)), .val (.ref b1), .val (.int j10_0), .val (.int j11_0), .val (.int j12_0), .unset, .unset, .unset, .unset, .unset] []))
          refine Goes.pre (fun t kt => XS.aload X37.here hx rfl (hb hby at_275) rfl rfl kt) ?_
          show Goes p e below s _ _ _ (T37.setTop (mkF m 277 #[.val (.long q1), .second, .val (.long q2), .second, .val (.long q3), .second, .val (.int p4), .val (.int p5), .val (.int p6), .val (.int (p5.toInt16.toInt32)), .val (.int (((p5.toUInt32 >>> ((16 : Int32) &&& 31).toUInt32).toInt32).toInt16.toInt32)), .val (.long (q1 - q2)), .second, .val (.long (q3 - q1)), .second, .val (.long (q2 ^^^ q3)), .second, .val (.int (p4 ^^^ p6)), .val (.int (p5 + p6)), .val (.ref b1), .val (.int j10_0), .val (.int j11_0), .val (.int j12_0), .unset, .unset, .unset, .unset, .unset] [(.ref b1)]))
          obtain ⟨cq41, kq41, qa41, qb41, qc41⟩ := isOf hZ eq37 fc15
          obtain ⟨_, _, ⟨T40, L40, k40, n40⟩, -, X40, ⟨Lc40, hQ40, l40, y40, z40⟩, st40⟩ := X37.virtualBack hx (y := (⟨"com/example/seqlint/seqlint/kafka/Batch", "isTransactional", "()Z"⟩ : MethodName)) (z := (⟨"com/example/seqlint/seqlint/kafka/Batch", "isTransactional", "()Z"⟩ : MethodName)) hown (mvT hZ (hw _ (List.mem_of_getElem? (i := 116) rfl))) (mvT hZ (hw _ (List.mem_of_getElem? (i := 117) rfl))) (notFace_of_selects (args := #[]) (mvT hZ (hw _ (List.mem_of_getElem? (i := 119) rfl)))) (mvT hZ (hw _ (List.mem_of_getElem? (i := 119) rfl))) (mvT hZ (hw _ (List.mem_of_getElem? (i := 118) rfl))) (by decide) (backOf (W := 0) (rm18 l Z a0 hw [] b1 (q2 ^^^ q3) (p5.toInt16.toInt32) h8 n0 Z8 pq8_9 pq8_5) hZ (hw _ (List.mem_of_getElem? (i := 120) rfl)) (hw _ (List.mem_of_getElem? (i := 2) rfl)) (by decide) (by decide)) qa41 qc41 (g := (mkF m 277 #[.val (.long q1), .second, .val (.long q2), .second, .val (.long q3), .second, .val (.int p4), .val (.int p5), .val (.int p6), .val (.int (p5.toInt16.toInt32)), .val (.int (((p5.toUInt32 >>> ((16 : Int32) &&& 31).toUInt32).toInt32).toInt16.toInt32)), .val (.long (q1 - q2)), .second, .val (.long (q3 - q1)), .second, .val (.long (q2 ^^^ q3)), .second, .val (.int (p4 ^^^ p6)), .val (.int (p5 + p6)), .val (.ref b1), .val (.int j10_0), .val (.int j11_0), .val (.int j12_0), .unset, .unset, .unset, .unset, .unset] [(.ref b1)])) rfl (by rw [hml]; rfl) (Steps.refl _) (argsL := []) (rest := []) (lenOf pd_2 rfl) rfl (by show 2 * 0 + _ ≤ _; exact Nat.le_of_eq rfl) (hb hby at_277) (fun _ _ => ⟨rfl, eq37, (by decide : 1 + 0 ≤ _), (by decide : 14 + 0 ≤ _)⟩)
          dsimp only [Pt.U, Pt.locs, Pt.cells, Pt.slots] at X40 l40 y40 z40 st40 hQ40
          subst l40 y40 z40
          obtain ⟨rfl, Nq40, eq40⟩ := hQ40
          refine Goes.run st40 ?_
          have N40 := Fr.app N37 Nq40
          show Goes p e below s _ _ _ (T40.setTop (mkF m 280 #[.val (.long q1), .second, .val (.long q2), .second, .val (.long q3), .second, .val (.int p4), .val (.int p5), .val (.int p6), .val (.int (p5.toInt16.toInt32)), .val (.int (((p5.toUInt32 >>> ((16 : Int32) &&& 31).toUInt32).toInt32).toInt16.toInt32)), .val (.long (q1 - q2)), .second, .val (.long (q3 - q1)), .second, .val (.long (q2 ^^^ q3)), .second, .val (.int (p4 ^^^ p6)), .val (.int (p5 + p6)), .val (.ref b1), .val (.int j10_0), .val (.int j11_0), .val (.int j12_0), .unset, .unset, .unset, .unset, .unset] [(.int (own_tx (q2 ^^^ q3) (p5.toInt16.toInt32)))]))
          refine Goes.pre (fun t kt => XS.iload X40.here hx rfl (hb hby at_280) rfl kt) ?_
          show Goes p e below s _ _ _ (T40.setTop (mkF m 282 #[.val (.long q1), .second, .val (.long q2), .second, .val (.long q3), .second, .val (.int p4), .val (.int p5), .val (.int p6), .val (.int (p5.toInt16.toInt32)), .val (.int (((p5.toUInt32 >>> ((16 : Int32) &&& 31).toUInt32).toInt32).toInt16.toInt32)), .val (.long (q1 - q2)), .second, .val (.long (q3 - q1)), .second, .val (.long (q2 ^^^ q3)), .second, .val (.int (p4 ^^^ p6)), .val (.int (p5 + p6)), .val (.ref b1), .val (.int j10_0), .val (.int j11_0), .val (.int j12_0), .unset, .unset, .unset, .unset, .unset] [(.int j10_0), (.int (own_tx (q2 ^^^ q3) (p5.toInt16.toInt32)))]))
          have J42 : ∀ (j42_0 : Int32), (j42_0 = own_tx (q2 ^^^ q3) (p5.toInt16.toInt32)) → Goes p e below s (Q_rm0 Z q1 q2 q3 p4 p5 p6 w1 h0 n0) room_1.cells room_1.slots (T40.setTop (mkF m 300 #[.val (.long q1), .second, .val (.long q2), .second, .val (.long q3), .second, .val (.int p4), .val (.int p5), .val (.int p6), .val (.int (p5.toInt16.toInt32)), .val (.int (((p5.toUInt32 >>> ((16 : Int32) &&& 31).toUInt32).toInt32).toInt16.toInt32)), .val (.long (q1 - q2)), .second, .val (.long (q3 - q1)), .second, .val (.long (q2 ^^^ q3)), .second, .val (.int (p4 ^^^ p6)), .val (.int (p5 + p6)), .val (.ref b1), .val (.int j10_0), .val (.int j11_0), .val (.int j12_0), .unset, .unset, .unset, .unset, .unset] [(.int j42_0), (.int (own_tx (q2 ^^^ q3) (p5.toInt16.toInt32)))])) := by
            intro j42_0 ht
            refine Goes.pre (fun t kt => XS.icmpNo X40.here hx rfl (hb hby at_300) rfl (Jvm.Free.XT.ii_ne_f (ht.symm)) kt) ?_
            show Goes p e below s _ _ _ (T40.setTop (mkF m 303 #[.val (.long q1), .second, .val (.long q2), .second, .val (.long q3), .second, .val (.int p4), .val (.int p5), .val (.int p6), .val (.int (p5.toInt16.toInt32)), .val (.int (((p5.toUInt32 >>> ((16 : Int32) &&& 31).toUInt32).toInt32).toInt16.toInt32)), .val (.long (q1 - q2)), .second, .val (.long (q3 - q1)), .second, .val (.long (q2 ^^^ q3)), .second, .val (.int (p4 ^^^ p6)), .val (.int (p5 + p6)), .val (.ref b1), .val (.int j10_0), .val (.int j11_0), .val (.int j12_0), .unset, .unset, .unset, .unset, .unset] []))
            refine Goes.pre (fun t kt => XS.iconst X40.here hx rfl (hb hby at_303) kt) ?_
            show Goes p e below s _ _ _ (T40.setTop (mkF m 304 #[.val (.long q1), .second, .val (.long q2), .second, .val (.long q3), .second, .val (.int p4), .val (.int p5), .val (.int p6), .val (.int (p5.toInt16.toInt32)), .val (.int (((p5.toUInt32 >>> ((16 : Int32) &&& 31).toUInt32).toInt32).toInt16.toInt32)), .val (.long (q1 - q2)), .second, .val (.long (q3 - q1)), .second, .val (.long (q2 ^^^ q3)), .second, .val (.int (p4 ^^^ p6)), .val (.int (p5 + p6)), .val (.ref b1), .val (.int j10_0), .val (.int j11_0), .val (.int j12_0), .unset, .unset, .unset, .unset, .unset] [(.int (1 : Int32))]))
            refine Goes.pre (fun t kt => XS.goto X40.here hx rfl (pc0 := 304) (pc' := 308) rfl (hb hby at_304) (by decide) (by decide) kt) ?_
            show Goes p e below s _ _ _ (T40.setTop (mkF m 308 #[.val (.long q1), .second, .val (.long q2), .second, .val (.long q3), .second, .val (.int p4), .val (.int p5), .val (.int p6), .val (.int (p5.toInt16.toInt32)), .val (.int (((p5.toUInt32 >>> ((16 : Int32) &&& 31).toUInt32).toInt32).toInt16.toInt32)), .val (.long (q1 - q2)), .second, .val (.long (q3 - q1)), .second, .val (.long (q2 ^^^ q3)), .second, .val (.int (p4 ^^^ p6)), .val (.int (p5 + p6)), .val (.ref b1), .val (.int j10_0), .val (.int j11_0), .val (.int j12_0), .unset, .unset, .unset, .unset, .unset] [(.int (1 : Int32))]))
            refine Goes.pre (fun t kt => XS.istore X40.here hx rfl (hb hby at_308) rfl (l' := #[.val (.long q1), .second, .val (.long q2), .second, .val (.long q3), .second, .val (.int p4), .val (.int p5), .val (.int p6), .val (.int (p5.toInt16.toInt32)), .val (.int (((p5.toUInt32 >>> ((16 : Int32) &&& 31).toUInt32).toInt32).toInt16.toInt32)), .val (.long (q1 - q2)), .second, .val (.long (q3 - q1)), .second, .val (.long (q2 ^^^ q3)), .second, .val (.int (p4 ^^^ p6)), .val (.int (p5 + p6)), .val (.ref b1), .val (.int j10_0), .val (.int j11_0), .val (.int j12_0), .val (.int (1 : Int32)), .unset, .unset, .unset, .unset]) rfl kt) ?_
            show Goes p e below s _ _ _ (T40.setTop (mkF m 310 #[.val (.long q1), .second, .val (.long q2), .second, .val (.long q3), .second, .val (.int p4), .val (.int p5), .val (.int p6), .val (.int (p5.toInt16.toInt32)), .val (.int (((p5.toUInt32 >>> ((16 : Int32) &&& 31).toUInt32).toInt32).toInt16.toInt32)), .val (.long (q1 - q2)), .second, .val (.long (q3 - q1)), .second, .val (.long (q2 ^^^ q3)), .second, .val (.int (p4 ^^^ p6)), .val (.int (p5 + p6)), .val (.ref b1), .val (.int j10_0), .val (.int j11_0), .val (.int j12_0), .val (.int (1 : Int32)), .unset, .unset, .unset, .unset] []))
            refine Goes.pre (fun t kt => XS.aload X40.here hx rfl (hb hby at_310) rfl rfl kt) ?_
            show Goes p e below s _ _ _ (T40.setTop (mkF m 312 #[.val (.long q1), .second, .val (.long q2), .second, .val (.long q3), .second, .val (.int p4), .val (.int p5), .val (.int p6), .val (.int (p5.toInt16.toInt32)), .val (.int (((p5.toUInt32 >>> ((16 : Int32) &&& 31).toUInt32).toInt32).toInt16.toInt32)), .val (.long (q1 - q2)), .second, .val (.long (q3 - q1)), .second, .val (.long (q2 ^^^ q3)), .second, .val (.int (p4 ^^^ p6)), .val (.int (p5 + p6)), .val (.ref b1), .val (.int j10_0), .val (.int j11_0), .val (.int j12_0), .val (.int (1 : Int32)), .unset, .unset, .unset, .unset] [(.ref b1)]))
            refine Goes.pre (fun t kt => XS.lload X40.here hx rfl (hb hby at_312) rfl kt) ?_
            show Goes p e below s _ _ _ (T40.setTop (mkF m 314 #[.val (.long q1), .second, .val (.long q2), .second, .val (.long q3), .second, .val (.int p4), .val (.int p5), .val (.int p6), .val (.int (p5.toInt16.toInt32)), .val (.int (((p5.toUInt32 >>> ((16 : Int32) &&& 31).toUInt32).toInt32).toInt16.toInt32)), .val (.long (q1 - q2)), .second, .val (.long (q3 - q1)), .second, .val (.long (q2 ^^^ q3)), .second, .val (.int (p4 ^^^ p6)), .val (.int (p5 + p6)), .val (.ref b1), .val (.int j10_0), .val (.int j11_0), .val (.int j12_0), .val (.int (1 : Int32)), .unset, .unset, .unset, .unset] [(.long q3), (.ref b1)]))
            refine Goes.pre (fun t kt => XS.aconstNull X40.here hx rfl (hb hby at_314) kt) ?_
            show Goes p e below s _ _ _ (T40.setTop (mkF m 315 #[.val (.long q1), .second, .val (.long q2), .second, .val (.long q3), .second, .val (.int p4), .val (.int p5), .val (.int p6), .val (.int (p5.toInt16.toInt32)), .val (.int (((p5.toUInt32 >>> ((16 : Int32) &&& 31).toUInt32).toInt32).toInt16.toInt32)), .val (.long (q1 - q2)), .second, .val (.long (q3 - q1)), .second, .val (.long (q2 ^^^ q3)), .second, .val (.int (p4 ^^^ p6)), .val (.int (p5 + p6)), .val (.ref b1), .val (.int j10_0), .val (.int j11_0), .val (.int j12_0), .val (.int (1 : Int32)), .unset, .unset, .unset, .unset] [.null, (.long q3), (.ref b1)]))
            obtain ⟨cq44, kq44, qa44, qb44, qc44⟩ := isOf hZ eq40 fc15
            obtain ⟨_, _, ⟨T43, L43, k43, n43⟩, -, X43, ⟨Lc43, hQ43, l43, y43, z43⟩, st43⟩ := X40.virtualBack hx (y := (⟨"com/example/seqlint/seqlint/kafka/Batch", "setRecordsRead", "(JLcom/example/seqlint/seqlint/kafka/Batch$Marker;)V"⟩ : MethodName)) (z := (⟨"com/example/seqlint/seqlint/kafka/Batch", "setRecordsRead", "(JLcom/example/seqlint/seqlint/kafka/Batch$Marker;)V"⟩ : MethodName)) hown (mvT hZ (hw _ (List.mem_of_getElem? (i := 12) rfl))) (mvT hZ (hw _ (List.mem_of_getElem? (i := 13) rfl))) (notFace_of_selects (args := #[]) (mvT hZ (hw _ (List.mem_of_getElem? (i := 15) rfl)))) (mvT hZ (hw _ (List.mem_of_getElem? (i := 15) rfl))) (mvT hZ (hw _ (List.mem_of_getElem? (i := 14) rfl))) (by decide) (backOf (W := 0) (rm3 l Z a0 hw [] b1 q3 (.long (-1 : Int64)) .null q1 q2 p4 q3 (p5.toInt16.toInt32) p6 (q1 - q2) (q3 - q1) (q2 ^^^ q3) (((p5.toUInt32 >>> ((16 : Int32) &&& 31).toUInt32).toInt32).toInt16.toInt32) (p4 ^^^ p6) (p5 + p6) h8 n0 Z8 fc15 gg1 pq8_4 pq8_13 pq8_0 pq8_1 pq8_2 pq8_3 pq8_5 pq8_6 pq8_7 pq8_8 pq8_9 pq8_10 pq8_11 pq8_12) hZ (hw _ (List.mem_of_getElem? (i := 16) rfl)) (hw _ (List.mem_of_getElem? (i := 2) rfl)) (by decide) (by decide)) qa44 qc44 (g := (mkF m 315 #[.val (.long q1), .second, .val (.long q2), .second, .val (.long q3), .second, .val (.int p4), .val (.int p5), .val (.int p6), .val (.int (p5.toInt16.toInt32)), .val (.int (((p5.toUInt32 >>> ((16 : Int32) &&& 31).toUInt32).toInt32).toInt16.toInt32)), .val (.long (q1 - q2)), .second, .val (.long (q3 - q1)), .second, .val (.long (q2 ^^^ q3)), .second, .val (.int (p4 ^^^ p6)), .val (.int (p5 + p6)), .val (.ref b1), .val (.int j10_0), .val (.int j11_0), .val (.int j12_0), .val (.int (1 : Int32)), .unset, .unset, .unset, .unset] [.null, (.long q3), (.ref b1)])) rfl (by rw [hml]; rfl) (Steps.refl _) (argsL := [(.long q3), .null]) (rest := []) (lenOf pd_4 rfl) rfl (by show 2 * 0 + _ ≤ _; exact Nat.le_of_eq rfl) (hb hby at_315) (fun _ _ => ⟨rfl, eq40, (by decide : 1 + 0 ≤ _), (by decide : 14 + 0 ≤ _)⟩)
            dsimp only [Pt.U, Pt.locs, Pt.cells, Pt.slots] at X43 l43 y43 z43 st43 hQ43
            subst l43 y43 z43
            obtain ⟨rfl, Nq43, Kq43, pq43_0, pq43_1, pq43_2, pq43_3, pq43_4, pq43_5, pq43_6, pq43_7, pq43_8, pq43_9, pq43_10, pq43_11, pq43_12⟩ := hQ43
            refine Goes.run st43 ?_
            have N43 := Fr.app N40 Nq43
            obtain ⟨h43, e43⟩ : ∃ z, T43.heap = z := ⟨_, rfl⟩
            rw [e43] at Kq43 pq43_0 pq43_1 pq43_2 pq43_3 pq43_4 pq43_5 pq43_6 pq43_7 pq43_8 pq43_9 pq43_10 pq43_11 pq43_12
            have Z43 : n0 ≤ h43.size := Nat.le_trans Z8 Kq43.1
            show Goes p e below s _ _ _ (T43.setTop (mkF m 318 #[.val (.long q1), .second, .val (.long q2), .second, .val (.long q3), .second, .val (.int p4), .val (.int p5), .val (.int p6), .val (.int (p5.toInt16.toInt32)), .val (.int (((p5.toUInt32 >>> ((16 : Int32) &&& 31).toUInt32).toInt32).toInt16.toInt32)), .val (.long (q1 - q2)), .second, .val (.long (q3 - q1)), .second, .val (.long (q2 ^^^ q3)), .second, .val (.int (p4 ^^^ p6)), .val (.int (p5 + p6)), .val (.ref b1), .val (.int j10_0), .val (.int j11_0), .val (.int j12_0), .val (.int (1 : Int32)), .unset, .unset, .unset, .unset] []))
            refine Goes.pre (fun t kt => XS.lload X43.here hx rfl (hb hby at_318) rfl kt) ?_
            show Goes p e below s _ _ _ (T43.setTop (mkF m 320 #[.val (.long q1), .second, .val (.long q2), .second, .val (.long q3), .second, .val (.int p4), .val (.int p5), .val (.int p6), .val (.int (p5.toInt16.toInt32)), .val (.int (((p5.toUInt32 >>> ((16 : Int32) &&& 31).toUInt32).toInt32).toInt16.toInt32)), .val (.long (q1 - q2)), .second, .val (.long (q3 - q1)), .second, .val (.long (q2 ^^^ q3)), .second, .val (.int (p4 ^^^ p6)), .val (.int (p5 + p6)), .val (.ref b1), .val (.int j10_0), .val (.int j11_0), .val (.int j12_0), .val (.int (1 : Int32)), .unset, .unset, .unset, .unset] [(.long (q1 - q2))]))
            refine Goes.pre (fun t kt => XS.lconst X43.here hx rfl (hb hby at_320) kt) ?_
            show Goes p e below s _ _ _ (T43.setTop (mkF m 321 #[.val (.long q1), .second, .val (.long q2), .second, .val (.long q3), .second, .val (.int p4), .val (.int p5), .val (.int p6), .val (.int (p5.toInt16.toInt32)), .val (.int (((p5.toUInt32 >>> ((16 : Int32) &&& 31).toUInt32).toInt32).toInt16.toInt32)), .val (.long (q1 - q2)), .second, .val (.long (q3 - q1)), .second, .val (.long (q2 ^^^ q3)), .second, .val (.int (p4 ^^^ p6)), .val (.int (p5 + p6)), .val (.ref b1), .val (.int j10_0), .val (.int j11_0), .val (.int j12_0), .val (.int (1 : Int32)), .unset, .unset, .unset, .unset] [(.long (0 : Int64)), (.long (q1 - q2))]))
            refine Goes.pre (fun t kt => XS.lcmp X43.here hx rfl (hb hby at_321) rfl kt) ?_
            show Goes p e below s _ _ _ (T43.setTop (mkF m 322 #[.val (.long q1), .second, .val (.long q2), .second, .val (.long q3), .second, .val (.int p4), .val (.int p5), .val (.int p6), .val (.int (p5.toInt16.toInt32)), .val (.int (((p5.toUInt32 >>> ((16 : Int32) &&& 31).toUInt32).toInt32).toInt16.toInt32)), .val (.long (q1 - q2)), .second, .val (.long (q3 - q1)), .second, .val (.long (q2 ^^^ q3)), .second, .val (.int (p4 ^^^ p6)), .val (.int (p5 + p6)), .val (.ref b1), .val (.int j10_0), .val (.int j11_0), .val (.int j12_0), .val (.int (1 : Int32)), .unset, .unset, .unset, .unset] [(.int (lcmpW (q1 - q2) (0 : Int64)))]))
            have J45 : ∀ (j45_0 : Int64), (j45_0 = own_ts (q1 - q2)) → Goes p e below s (Q_rm0 Z q1 q2 q3 p4 p5 p6 w1 h0 n0) room_1.cells room_1.slots (T43.setTop (mkF m 333 #[.val (.long q1), .second, .val (.long q2), .second, .val (.long q3), .second, .val (.int p4), .val (.int p5), .val (.int p6), .val (.int (p5.toInt16.toInt32)), .val (.int (((p5.toUInt32 >>> ((16 : Int32) &&& 31).toUInt32).toInt32).toInt16.toInt32)), .val (.long (q1 - q2)), .second, .val (.long (q3 - q1)), .second, .val (.long (q2 ^^^ q3)), .second, .val (.int (p4 ^^^ p6)), .val (.int (p5 + p6)), .val (.ref b1), .val (.int j10_0), .val (.int j11_0), .val (.int j12_0), .val (.int (1 : Int32)), .unset, .unset, .unset, .unset] [(.long j45_0)])) := by
              intro j45_0 hf
              refine Goes.pre (fun t kt => XS.lstore X43.here hx rfl (hb hby at_333) rfl (l' := #[.val (.long q1), .second, .val (.long q2), .second, .val (.long q3), .second, .val (.int p4), .val (.int p5), .val (.int p6), .val (.int (p5.toInt16.toInt32)), .val (.int (((p5.toUInt32 >>> ((16 : Int32) &&& 31).toUInt32).toInt32).toInt16.toInt32)), .val (.long (q1 - q2)), .second, .val (.long (q3 - q1)), .second, .val (.long (q2 ^^^ q3)), .second, .val (.int (p4 ^^^ p6)), .val (.int (p5 + p6)), .val (.ref b1), .val (.int j10_0), .val (.int j11_0), .val (.int j12_0), .val (.int (1 : Int32)), .val (.long j45_0), .second, .unset, .unset]) rfl kt) ?_
              show Goes p e below s _ _ _ (T43.setTop (mkF m 335 #[.val (.long q1), .second, .val (.long q2), .second, .val (.long q3), .second, .val (.int p4), .val (.int p5), .val (.int p6), .val (.int (p5.toInt16.toInt32)), .val (.int (((p5.toUInt32 >>> ((16 : Int32) &&& 31).toUInt32).toInt32).toInt16.toInt32)), .val (.long (q1 - q2)), .second, .val (.long (q3 - q1)), .second, .val (.long (q2 ^^^ q3)), .second, .val (.int (p4 ^^^ p6)), .val (.int (p5 + p6)), .val (.ref b1), .val (.int j10_0), .val (.int j11_0), .val (.int j12_0), .val (.int (1 : Int32)), .val (.long j45_0), .second, .unset, .unset] []))
              refine Goes.pre (fun t kt => XS.lload X43.here hx rfl (hb hby at_335) rfl kt) ?_
              show Goes p e below s _ _ _ (T43.setTop (mkF m 337 #[.val (.long q1), .second, .val (.long q2), .second, .val (.long q3), .second, .val (.int p4), .val (.int p5), .val (.int p6), .val (.int (p5.toInt16.toInt32)), .val (.int (((p5.toUInt32 >>> ((16 : Int32) &&& 31).toUInt32).toInt32).toInt16.toInt32)), .val (.long (q1 - q2)), .second, .val (.long (q3 - q1)), .second, .val (.long (q2 ^^^ q3)), .second, .val (.int (p4 ^^^ p6)), .val (.int (p5 + p6)), .val (.ref b1), .val (.int j10_0), .val (.int j11_0), .val (.int j12_0), .val (.int (1 : Int32)), .val (.long j45_0), .second, .unset, .unset] [(.long (q3 - q1))]))
              refine Goes.pre (fun t kt => XS.lconst X43.here hx rfl (hb hby at_337) kt) ?_
              show Goes p e below s _ _ _ (T43.setTop (mkF m 338 #[.val (.long q1), .second, .val (.long q2), .second, .val (.long q3), .second, .val (.int p4), .val (.int p5), .val (.int p6), .val (.int (p5.toInt16.toInt32)), .val (.int (((p5.toUInt32 >>> ((16 : Int32) &&& 31).toUInt32).toInt32).toInt16.toInt32)), .val (.long (q1 - q2)), .second, .val (.long (q3 - q1)), .second, .val (.long (q2 ^^^ q3)), .second, .val (.int (p4 ^^^ p6)), .val (.int (p5 + p6)), .val (.ref b1), .val (.int j10_0), .val (.int j11_0), .val (.int j12_0), .val (.int (1 : Int32)), .val (.long j45_0), .second, .unset, .unset] [(.long (0 : Int64)), (.long (q3 - q1))]))
              refine Goes.pre (fun t kt => XS.lcmp X43.here hx rfl (hb hby at_338) rfl kt) ?_
              show Goes p e below s _ _ _ (T43.setTop (mkF m 339 #[.val (.long q1), .second, .val (.long q2), .second, .val (.long q3), .second, .val (.int p4), .val (.int p5), .val (.int p6), .val (.int (p5.toInt16.toInt32)), .val (.int (((p5.toUInt32 >>> ((16 : Int32) &&& 31).toUInt32).toInt32).toInt16.toInt32)), .val (.long (q1 - q2)), .second, .val (.long (q3 - q1)), .second, .val (.long (q2 ^^^ q3)), .second, .val (.int (p4 ^^^ p6)), .val (.int (p5 + p6)), .val (.ref b1), .val (.int j10_0), .val (.int j11_0), .val (.int j12_0), .val (.int (1 : Int32)), .val (.long j45_0), .second, .unset, .unset] [(.int (lcmpW (q3 - q1) (0 : Int64)))]))
              have J46 : ∀ (j46_0 : Int64), (j46_0 = own_ts (q3 - q1)) → Goes p e below s (Q_rm0 Z q1 q2 q3 p4 p5 p6 w1 h0 n0) room_1.cells room_1.slots (T43.setTop (mkF m 350 #[.val (.long q1), .second, .val (.long q2), .second, .val (.long q3), .second, .val (.int p4), .val (.int p5), .val (.int p6), .val (.int (p5.toInt16.toInt32)), .val (.int (((p5.toUInt32 >>> ((16 : Int32) &&& 31).toUInt32).toInt32).toInt16.toInt32)), .val (.long (q1 - q2)), .second, .val (.long (q3 - q1)), .second, .val (.long (q2 ^^^ q3)), .second, .val (.int (p4 ^^^ p6)), .val (.int (p5 + p6)), .val (.ref b1), .val (.int j10_0), .val (.int j11_0), .val (.int j12_0), .val (.int (1 : Int32)), .val (.long j45_0), .second, .unset, .unset] [(.long j46_0)])) := by
                intro j46_0 hg
                refine Goes.pre (fun t kt => XS.lstore X43.here hx rfl (hb hby at_350) rfl (l' := #[.val (.long q1), .second, .val (.long q2), .second, .val (.long q3), .second, .val (.int p4), .val (.int p5), .val (.int p6), .val (.int (p5.toInt16.toInt32)), .val (.int (((p5.toUInt32 >>> ((16 : Int32) &&& 31).toUInt32).toInt32).toInt16.toInt32)), .val (.long (q1 - q2)), .second, .val (.long (q3 - q1)), .second, .val (.long (q2 ^^^ q3)), .second, .val (.int (p4 ^^^ p6)), .val (.int (p5 + p6)), .val (.ref b1), .val (.int j10_0), .val (.int j11_0), .val (.int j12_0), .val (.int (1 : Int32)), .val (.long j45_0), .second, .val (.long j46_0), .second]) rfl kt) ?_
                show Goes p e below s _ _ _ (T43.setTop (mkF m 352 #[.val (.long q1), .second, .val (.long q2), .second, .val (.long q3), .second, .val (.int p4), .val (.int p5), .val (.int p6), .val (.int (p5.toInt16.toInt32)), .val (.int (((p5.toUInt32 >>> ((16 : Int32) &&& 31).toUInt32).toInt32).toInt16.toInt32)), .val (.long (q1 - q2)), .second, .val (.long (q3 - q1)), .second, .val (.long (q2 ^^^ q3)), .second, .val (.int (p4 ^^^ p6)), .val (.int (p5 + p6)), .val (.ref b1), .val (.int j10_0), .val (.int j11_0), .val (.int j12_0), .val (.int (1 : Int32)), .val (.long j45_0), .second, .val (.long j46_0), .second] []))
                refine Goes.pre (fun t kt => XS.iload X43.here hx rfl (hb hby at_352) rfl kt) ?_
                show Goes p e below s _ _ _ (T43.setTop (mkF m 354 #[.val (.long q1), .second, .val (.long q2), .second, .val (.long q3), .second, .val (.int p4), .val (.int p5), .val (.int p6), .val (.int (p5.toInt16.toInt32)), .val (.int (((p5.toUInt32 >>> ((16 : Int32) &&& 31).toUInt32).toInt32).toInt16.toInt32)), .val (.long (q1 - q2)), .second, .val (.long (q3 - q1)), .second, .val (.long (q2 ^^^ q3)), .second, .val (.int (p4 ^^^ p6)), .val (.int (p5 + p6)), .val (.ref b1), .val (.int j10_0), .val (.int j11_0), .val (.int j12_0), .val (.int (1 : Int32)), .val (.long j45_0), .second, .val (.long j46_0), .second] [(.int (1 : Int32))]))
                refine Goes.pre (fun t kt => XS.ifNo X43.here hx rfl (hb hby at_354) rfl (Jvm.Free.XT.i0_eq_f ((by decide))) kt) ?_
                show Goes p e below s _ _ _ (T43.setTop (mkF m 357 #[.val (.long q1), .second, .val (.long q2), .second, .val (.long q3), .second, .val (.int p4), .val (.int p5), .val (.int p6), .val (.int (p5.toInt16.toInt32)), .val (.int (((p5.toUInt32 >>> ((16 : Int32) &&& 31).toUInt32).toInt32).toInt16.toInt32)), .val (.long (q1 - q2)), .second, .val (.long (q3 - q1)), .second, .val (.long (q2 ^^^ q3)), .second, .val (.int (p4 ^^^ p6)), .val (.int (p5 + p6)), .val (.ref b1), .val (.int j10_0), .val (.int j11_0), .val (.int j12_0), .val (.int (1 : Int32)), .val (.long j45_0), .second, .val (.long j46_0), .second] []))
                refine Goes.pre (fun t kt => XS.aload X43.here hx rfl (hb hby at_357) rfl rfl kt) ?_
                show Goes p e below s _ _ _ (T43.setTop (mkF m 359 #[.val (.long q1), .second, .val (.long q2), .second, .val (.long q3), .second, .val (.int p4), .val (.int p5), .val (.int p6), .val (.int (p5.toInt16.toInt32)), .val (.int (((p5.toUInt32 >>> ((16 : Int32) &&& 31).toUInt32).toInt32).toInt16.toInt32)), .val (.long (q1 - q2)), .second, .val (.long (q3 - q1)), .second, .val (.long (q2 ^^^ q3)), .second, .val (.int (p4 ^^^ p6)), .val (.int (p5 + p6)), .val (.ref b1), .val (.int j10_0), .val (.int j11_0), .val (.int j12_0), .val (.int (1 : Int32)), .val (.long j45_0), .second, .val (.long j46_0), .second] [(.ref b1)]))
                have fc47 : Exa Z h43 b1 "com/example/seqlint/seqlint/kafka/Batch" := (fc15.keep Kq43)
                obtain ⟨cq49, kq49, qa49, qb49, qc49⟩ := isOf hZ e43 fc47
                obtain ⟨_, _, ⟨T48, L48, k48, n48⟩, -, X48, ⟨Lc48, hQ48, l48, y48, z48⟩, st48⟩ := X43.virtualBack hx (y := (⟨"com/example/seqlint/seqlint/kafka/Batch", "firstTimestamp", "()J"⟩ : MethodName)) (z := (⟨"com/example/seqlint/seqlint/kafka/Batch", "firstTimestamp", "()J"⟩ : MethodName)) hown (mvT hZ (hw _ (List.mem_of_getElem? (i := 121) rfl))) (mvT hZ (hw _ (List.mem_of_getElem? (i := 122) rfl))) (notFace_of_selects (args := #[]) (mvT hZ (hw _ (List.mem_of_getElem? (i := 124) rfl)))) (mvT hZ (hw _ (List.mem_of_getElem? (i := 124) rfl))) (mvT hZ (hw _ (List.mem_of_getElem? (i := 123) rfl))) (by decide) (backOf (W := 0) (rm19 l Z a0 hw [] b1 q3 (q1 - q2) h43 n0 Z43 fc47 pq43_0 pq43_4 pq43_7) hZ (hw _ (List.mem_of_getElem? (i := 125) rfl)) (hw _ (List.mem_of_getElem? (i := 2) rfl)) (by decide) (by decide)) qa49 qc49 (g := (mkF m 359 #[.val (.long q1), .second, .val (.long q2), .second, .val (.long q3), .second, .val (.int p4), .val (.int p5), .val (.int p6), .val (.int (p5.toInt16.toInt32)), .val (.int (((p5.toUInt32 >>> ((16 : Int32) &&& 31).toUInt32).toInt32).toInt16.toInt32)), .val (.long (q1 - q2)), .second, .val (.long (q3 - q1)), .second, .val (.long (q2 ^^^ q3)), .second, .val (.int (p4 ^^^ p6)), .val (.int (p5 + p6)), .val (.ref b1), .val (.int j10_0), .val (.int j11_0), .val (.int j12_0), .val (.int (1 : Int32)), .val (.long j45_0), .second, .val (.long j46_0), .second] [(.ref b1)])) rfl (by rw [hml]; rfl) (Steps.refl _) (argsL := []) (rest := []) (lenOf pd_6 rfl) rfl (by show 2 * 0 + _ ≤ _; exact Nat.le_of_eq rfl) (hb hby at_359) (fun _ _ => ⟨rfl, e43, (by decide : 1 + 0 ≤ _), (by decide : 14 + 0 ≤ _)⟩)
                dsimp only [Pt.U, Pt.locs, Pt.cells, Pt.slots] at X48 l48 y48 z48 st48 hQ48
                subst l48 y48 z48
                obtain ⟨rfl, Nq48, eq48⟩ := hQ48
                refine Goes.run st48 ?_
                have N48 := Fr.app N43 Nq48
                show Goes p e below s _ _ _ (T48.setTop (mkF m 362 #[.val (.long q1), .second, .val (.long q2), .second, .val (.long q3), .second, .val (.int p4), .val (.int p5), .val (.int p6), .val (.int (p5.toInt16.toInt32)), .val (.int (((p5.toUInt32 >>> ((16 : Int32) &&& 31).toUInt32).toInt32).toInt16.toInt32)), .val (.long (q1 - q2)), .second, .val (.long (q3 - q1)), .second, .val (.long (q2 ^^^ q3)), .second, .val (.int (p4 ^^^ p6)), .val (.int (p5 + p6)), .val (.ref b1), .val (.int j10_0), .val (.int j11_0), .val (.int j12_0), .val (.int (1 : Int32)), .val (.long j45_0), .second, .val (.long j46_0), .second] [(.long (own_ts (q1 - q2)))]))
                refine Goes.pre (fun t kt => XS.lload X48.here hx rfl (hb hby at_362) rfl kt) ?_
                show Goes p e below s _ _ _ (T48.setTop (mkF m 364 #[.val (.long q1), .second, .val (.long q2), .second, .val (.long q3), .second, .val (.int p4), .val (.int p5), .val (.int p6), .val (.int (p5.toInt16.toInt32)), .val (.int (((p5.toUInt32 >>> ((16 : Int32) &&& 31).toUInt32).toInt32).toInt16.toInt32)), .val (.long (q1 - q2)), .second, .val (.long (q3 - q1)), .second, .val (.long (q2 ^^^ q3)), .second, .val (.int (p4 ^^^ p6)), .val (.int (p5 + p6)), .val (.ref b1), .val (.int j10_0), .val (.int j11_0), .val (.int j12_0), .val (.int (1 : Int32)), .val (.long j45_0), .second, .val (.long j46_0), .second] [(.long j45_0), (.long (own_ts (q1 - q2)))]))
                refine Goes.pre (fun t kt => XS.lcmp X48.here hx rfl (hb hby at_364) rfl kt) ?_
                show Goes p e below s _ _ _ (T48.setTop (mkF m 365 #[.val (.long q1), .second, .val (.long q2), .second, .val (.long q3), .second, .val (.int p4), .val (.int p5), .val (.int p6), .val (.int (p5.toInt16.toInt32)), .val (.int (((p5.toUInt32 >>> ((16 : Int32) &&& 31).toUInt32).toInt32).toInt16.toInt32)), .val (.long (q1 - q2)), .second, .val (.long (q3 - q1)), .second, .val (.long (q2 ^^^ q3)), .second, .val (.int (p4 ^^^ p6)), .val (.int (p5 + p6)), .val (.ref b1), .val (.int j10_0), .val (.int j11_0), .val (.int j12_0), .val (.int (1 : Int32)), .val (.long j45_0), .second, .val (.long j46_0), .second] [(.int (lcmpW (own_ts (q1 - q2)) j45_0))]))
                refine Goes.pre (fun t kt => XS.ifNo X48.here hx rfl (hb hby at_365) rfl (Jvm.Free.XT.i0_ne_f ((lw_eq _ _).mpr hf.symm)) kt) ?_
                show Goes p e below s _ _ _ (T48.setTop (mkF m 368 #[.val (.long q1), .second, .val (.long q2), .second, .val (.long q3), .second, .val (.int p4), .val (.int p5), .val (.int p6), .val (.int (p5.toInt16.toInt32)), .val (.int (((p5.toUInt32 >>> ((16 : Int32) &&& 31).toUInt32).toInt32).toInt16.toInt32)), .val (.long (q1 - q2)), .second, .val (.long (q3 - q1)), .second, .val (.long (q2 ^^^ q3)), .second, .val (.int (p4 ^^^ p6)), .val (.int (p5 + p6)), .val (.ref b1), .val (.int j10_0), .val (.int j11_0), .val (.int j12_0), .val (.int (1 : Int32)), .val (.long j45_0), .second, .val (.long j46_0), .second] []))
                refine Goes.pre (fun t kt => XS.aload X48.here hx rfl (hb hby at_368) rfl rfl kt) ?_
                show Goes p e below s _ _ _ (T48.setTop (mkF m 370 #[.val (.long q1), .second, .val (.long q2), .second, .val (.long q3), .second, .val (.int p4), .val (.int p5), .val (.int p6), .val (.int (p5.toInt16.toInt32)), .val (.int (((p5.toUInt32 >>> ((16 : Int32) &&& 31).toUInt32).toInt32).toInt16.toInt32)), .val (.long (q1 - q2)), .second, .val (.long (q3 - q1)), .second, .val (.long (q2 ^^^ q3)), .second, .val (.int (p4 ^^^ p6)), .val (.int (p5 + p6)), .val (.ref b1), .val (.int j10_0), .val (.int j11_0), .val (.int j12_0), .val (.int (1 : Int32)), .val (.long j45_0), .second, .val (.long j46_0), .second] [(.ref b1)]))
                obtain ⟨cq51, kq51, qa51, qb51, qc51⟩ := isOf hZ eq48 fc47
                obtain ⟨_, _, ⟨T50, L50, k50, n50⟩, -, X50, ⟨Lc50, hQ50, l50, y50, z50⟩, st50⟩ := X48.virtualBack hx (y := (⟨"com/example/seqlint/seqlint/kafka/Batch", "lastTimestamp", "()J"⟩ : MethodName)) (z := (⟨"com/example/seqlint/seqlint/kafka/Batch", "lastTimestamp", "()J"⟩ : MethodName)) hown (mvT hZ (hw _ (List.mem_of_getElem? (i := 131) rfl))) (mvT hZ (hw _ (List.mem_of_getElem? (i := 132) rfl))) (notFace_of_selects (args := #[]) (mvT hZ (hw _ (List.mem_of_getElem? (i := 134) rfl)))) (mvT hZ (hw _ (List.mem_of_getElem? (i := 134) rfl))) (mvT hZ (hw _ (List.mem_of_getElem? (i := 133) rfl))) (by decide) (backOf (W := 0) (rm21 l Z a0 hw [] b1 q3 (q3 - q1) h43 n0 Z43 fc47 pq43_0 pq43_4 pq43_8) hZ (hw _ (List.mem_of_getElem? (i := 135) rfl)) (hw _ (List.mem_of_getElem? (i := 2) rfl)) (by decide) (by decide)) qa51 qc51 (g := (mkF m 370 #[.val (.long q1), .second, .val (.long q2), .second, .val (.long q3), .second, .val (.int p4), .val (.int p5), .val (.int p6), .val (.int (p5.toInt16.toInt32)), .val (.int (((p5.toUInt32 >>> ((16 : Int32) &&& 31).toUInt32).toInt32).toInt16.toInt32)), .val (.long (q1 - q2)), .second, .val (.long (q3 - q1)), .second, .val (.long (q2 ^^^ q3)), .second, .val (.int (p4 ^^^ p6)), .val (.int (p5 + p6)), .val (.ref b1), .val (.int j10_0), .val (.int j11_0), .val (.int j12_0), .val (.int (1 : Int32)), .val (.long j45_0), .second, .val (.long j46_0), .second] [(.ref b1)])) rfl (by rw [hml]; rfl) (Steps.refl _) (argsL := []) (rest := []) (lenOf pd_6 rfl) rfl (by show 2 * 0 + _ ≤ _; exact Nat.le_of_eq rfl) (hb hby at_370) (fun _ _ => ⟨rfl, eq48, (by decide : 1 + 0 ≤ _), (by decide : 14 + 0 ≤ _)⟩)
                dsimp only [Pt.U, Pt.locs, Pt.cells, Pt.slots] at X50 l50 y50 z50 st50 hQ50
                subst l50 y50 z50
                obtain ⟨rfl, Nq50, eq50⟩ := hQ50
                refine Goes.run st50 ?_
                have N50 := Fr.app N48 Nq50
                show Goes p e below s _ _ _ (T50.setTop (mkF m 373 #[.val (.long q1), .second, .val (.long q2), .second, .val (.long q3), .second, .val (.int p4), .val (.int p5), .val (.int p6), .val (.int (p5.toInt16.toInt32)), .val (.int (((p5.toUInt32 >>> ((16 : Int32) &&& 31).toUInt32).toInt32).toInt16.toInt32)), .val (.long (q1 - q2)), .second, .val (.long (q3 - q1)), .second, .val (.long (q2 ^^^ q3)), .second, .val (.int (p4 ^^^ p6)), .val (.int (p5 + p6)), .val (.ref b1), .val (.int j10_0), .val (.int j11_0), .val (.int j12_0), .val (.int (1 : Int32)), .val (.long j45_0), .second, .val (.long j46_0), .second] [(.long (own_ts (q3 - q1)))]))
                refine Goes.pre (fun t kt => XS.lload X50.here hx rfl (hb hby at_373) rfl kt) ?_
                show Goes p e below s _ _ _ (T50.setTop (mkF m 375 #[.val (.long q1), .second, .val (.long q2), .second, .val (.long q3), .second, .val (.int p4), .val (.int p5), .val (.int p6), .val (.int (p5.toInt16.toInt32)), .val (.int (((p5.toUInt32 >>> ((16 : Int32) &&& 31).toUInt32).toInt32).toInt16.toInt32)), .val (.long (q1 - q2)), .second, .val (.long (q3 - q1)), .second, .val (.long (q2 ^^^ q3)), .second, .val (.int (p4 ^^^ p6)), .val (.int (p5 + p6)), .val (.ref b1), .val (.int j10_0), .val (.int j11_0), .val (.int j12_0), .val (.int (1 : Int32)), .val (.long j45_0), .second, .val (.long j46_0), .second] [(.long j46_0), (.long (own_ts (q3 - q1)))]))
                refine Goes.pre (fun t kt => XS.lcmp X50.here hx rfl (hb hby at_375) rfl kt) ?_
                show Goes p e below s _ _ _ (T50.setTop (mkF m 376 #[.val (.long q1), .second, .val (.long q2), .second, .val (.long q3), .second, .val (.int p4), .val (.int p5), .val (.int p6), .val (.int (p5.toInt16.toInt32)), .val (.int (((p5.toUInt32 >>> ((16 : Int32) &&& 31).toUInt32).toInt32).toInt16.toInt32)), .val (.long (q1 - q2)), .second, .val (.long (q3 - q1)), .second, .val (.long (q2 ^^^ q3)), .second, .val (.int (p4 ^^^ p6)), .val (.int (p5 + p6)), .val (.ref b1), .val (.int j10_0), .val (.int j11_0), .val (.int j12_0), .val (.int (1 : Int32)), .val (.long j45_0), .second, .val (.long j46_0), .second] [(.int (lcmpW (own_ts (q3 - q1)) j46_0))]))
                refine Goes.pre (fun t kt => XS.ifNo X50.here hx rfl (hb hby at_376) rfl (Jvm.Free.XT.i0_ne_f ((lw_eq _ _).mpr hg.symm)) kt) ?_
                show Goes p e below s _ _ _ (T50.setTop (mkF m 379 #[.val (.long q1), .second, .val (.long q2), .second, .val (.long q3), .second, .val (.int p4), .val (.int p5), .val (.int p6), .val (.int (p5.toInt16.toInt32)), .val (.int (((p5.toUInt32 >>> ((16 : Int32) &&& 31).toUInt32).toInt32).toInt16.toInt32)), .val (.long (q1 - q2)), .second, .val (.long (q3 - q1)), .second, .val (.long (q2 ^^^ q3)), .second, .val (.int (p4 ^^^ p6)), .val (.int (p5 + p6)), .val (.ref b1), .val (.int j10_0), .val (.int j11_0), .val (.int j12_0), .val (.int (1 : Int32)), .val (.long j45_0), .second, .val (.long j46_0), .second] []))
                refine Goes.pre (fun t kt => XS.iconst X50.here hx rfl (hb hby at_379) kt) ?_
                show Goes p e below s _ _ _ (T50.setTop (mkF m 380 #[.val (.long q1), .second, .val (.long q2), .second, .val (.long q3), .second, .val (.int p4), .val (.int p5), .val (.int p6), .val (.int (p5.toInt16.toInt32)), .val (.int (((p5.toUInt32 >>> ((16 : Int32) &&& 31).toUInt32).toInt32).toInt16.toInt32)), .val (.long (q1 - q2)), .second, .val (.long (q3 - q1)), .second, .val (.long (q2 ^^^ q3)), .second, .val (.int (p4 ^^^ p6)), .val (.int (p5 + p6)), .val (.ref b1), .val (.int j10_0), .val (.int j11_0), .val (.int j12_0), .val (.int (1 : Int32)), .val (.long j45_0), .second, .val (.long j46_0), .second] [(.int (1 : Int32))]))
                refine Goes.pre (fun t kt => XS.goto X50.here hx rfl (pc0 := 380) (pc' := 384) rfl (hb hby at_380) (by decide) (by decide) kt) ?_
                show Goes p e below s _ _ _ (T50.setTop (mkF m 384 #[.val (.long q1), .second, .val (.long q2), .second, .val (.long q3), .second, .val (.int p4), .val (.int p5), .val (.int p6), .val (.int (p5.toInt16.toInt32)), .val (.int (((p5.toUInt32 >>> ((16 : Int32) &&& 31).toUInt32).toInt32).toInt16.toInt32)), .val (.long (q1 - q2)), .second, .val (.long (q3 - q1)), .second, .val (.long (q2 ^^^ q3)), .second, .val (.int (p4 ^^^ p6)), .val (.int (p5 + p6)), .val (.ref b1), .val (.int j10_0), .val (.int j11_0), .val (.int j12_0), .val (.int (1 : Int32)), .val (.long j45_0), .second, .val (.long j46_0), .second] [(.int (1 : Int32))]))
                refine Goes.ret X50 (some (.int (1 : Int32))) (fun h => by rw [Bd.returns] at h; cases h) (BodyLoose.notSynchronized Bd) (by decide) (by decide) (fun fs hr => retN X50 hx (t := .boolean) Bd.returns (by simp) (hb hby at_384) hr) ?_
                show Q_rm0 Z q1 q2 q3 p4 p5 p6 w1 h0 n0 _ T50.heap _
                rw [eq50]
                exact ⟨rfl, N50⟩
              by_cases hc339 : (q3 - q1) < (0 : Int64)
              · refine Goes.pre (fun t kt => XS.ifYes X43.here hx rfl (pc0 := 339) (pc' := 347) rfl (hb hby at_339) rfl (Jvm.Free.XT.i0_lt_t ((lw_lt _ _).mpr hc339)) (by decide) (by decide) kt) ?_
                show Goes p e below s _ _ _ (T43.setTop (mkF m 347 #[.val (.long q1), .second, .val (.long q2), .second, .val (.long q3), .second, .val (.int p4), .val (.int p5), .val (.int p6), .val (.int (p5.toInt16.toInt32)), .val (.int (((p5.toUInt32 >>> ((16 : Int32) &&& 31).toUInt32).toInt32).toInt16.toInt32)), .val (.long (q1 - q2)), .second, .val (.long (q3 - q1)), .second, .val (.long (q2 ^^^ q3)), .second, .val (.int (p4 ^^^ p6)), .val (.int (p5 + p6)), .val (.ref b1), .val (.int j10_0), .val (.int j11_0), .val (.int j12_0), .val (.int (1 : Int32)), .val (.long j45_0), .second, .unset, .unset] []))
                refine Goes.pre (X43.ldc2Long hx hown (mvT hZ (hw _ (List.mem_of_getElem? (i := 51) rfl))) (g := (mkF m 347 #[.val (.long q1), .second, .val (.long q2), .second, .val (.long q3), .second, .val (.int p4), .val (.int p5), .val (.int p6), .val (.int (p5.toInt16.toInt32)), .val (.int (((p5.toUInt32 >>> ((16 : Int32) &&& 31).toUInt32).toInt32).toInt16.toInt32)), .val (.long (q1 - q2)), .second, .val (.long (q3 - q1)), .second, .val (.long (q2 ^^^ q3)), .second, .val (.int (p4 ^^^ p6)), .val (.int (p5 + p6)), .val (.ref b1), .val (.int j10_0), .val (.int j11_0), .val (.int j12_0), .val (.int (1 : Int32)), .val (.long j45_0), .second, .unset, .unset] [])) rfl (hb hby at_347)) ?_
                show Goes p e below s _ _ _ (T43.setTop (mkF m 350 #[.val (.long q1), .second, .val (.long q2), .second, .val (.long q3), .second, .val (.int p4), .val (.int p5), .val (.int p6), .val (.int (p5.toInt16.toInt32)), .val (.int (((p5.toUInt32 >>> ((16 : Int32) &&& 31).toUInt32).toInt32).toInt16.toInt32)), .val (.long (q1 - q2)), .second, .val (.long (q3 - q1)), .second, .val (.long (q2 ^^^ q3)), .second, .val (.int (p4 ^^^ p6)), .val (.int (p5 + p6)), .val (.ref b1), .val (.int j10_0), .val (.int j11_0), .val (.int j12_0), .val (.int (1 : Int32)), .val (.long j45_0), .second, .unset, .unset] [(.long (-1 : Int64))]))
                exact J46 ((-1 : Int64)) ((by simp [own_ts, hc339]))
              · refine Goes.pre (fun t kt => XS.ifNo X43.here hx rfl (hb hby at_339) rfl (Jvm.Free.XT.i0_lt_f ((not_congr (lw_lt _ _)).mpr hc339)) kt) ?_
                show Goes p e below s _ _ _ (T43.setTop (mkF m 342 #[.val (.long q1), .second, .val (.long q2), .second, .val (.long q3), .second, .val (.int p4), .val (.int p5), .val (.int p6), .val (.int (p5.toInt16.toInt32)), .val (.int (((p5.toUInt32 >>> ((16 : Int32) &&& 31).toUInt32).toInt32).toInt16.toInt32)), .val (.long (q1 - q2)), .second, .val (.long (q3 - q1)), .second, .val (.long (q2 ^^^ q3)), .second, .val (.int (p4 ^^^ p6)), .val (.int (p5 + p6)), .val (.ref b1), .val (.int j10_0), .val (.int j11_0), .val (.int j12_0), .val (.int (1 : Int32)), .val (.long j45_0), .second, .unset, .unset] []))
                refine Goes.pre (fun t kt => XS.lload X43.here hx rfl (hb hby at_342) rfl kt) ?_
                show Goes p e below s _ _ _ (T43.setTop (mkF m 344 #[.val (.long q1), .second, .val (.long q2), .second, .val (.long q3), .second, .val (.int p4), .val (.int p5), .val (.int p6), .val (.int (p5.toInt16.toInt32)), .val (.int (((p5.toUInt32 >>> ((16 : Int32) &&& 31).toUInt32).toInt32).toInt16.toInt32)), .val (.long (q1 - q2)), .second, .val (.long (q3 - q1)), .second, .val (.long (q2 ^^^ q3)), .second, .val (.int (p4 ^^^ p6)), .val (.int (p5 + p6)), .val (.ref b1), .val (.int j10_0), .val (.int j11_0), .val (.int j12_0), .val (.int (1 : Int32)), .val (.long j45_0), .second, .unset, .unset] [(.long (q3 - q1))]))
                refine Goes.pre (fun t kt => XS.goto X43.here hx rfl (pc0 := 344) (pc' := 350) rfl (hb hby at_344) (by decide) (by decide) kt) ?_
                show Goes p e below s _ _ _ (T43.setTop (mkF m 350 #[.val (.long q1), .second, .val (.long q2), .second, .val (.long q3), .second, .val (.int p4), .val (.int p5), .val (.int p6), .val (.int (p5.toInt16.toInt32)), .val (.int (((p5.toUInt32 >>> ((16 : Int32) &&& 31).toUInt32).toInt32).toInt16.toInt32)), .val (.long (q1 - q2)), .second, .val (.long (q3 - q1)), .second, .val (.long (q2 ^^^ q3)), .second, .val (.int (p4 ^^^ p6)), .val (.int (p5 + p6)), .val (.ref b1), .val (.int j10_0), .val (.int j11_0), .val (.int j12_0), .val (.int (1 : Int32)), .val (.long j45_0), .second, .unset, .unset] [(.long (q3 - q1))]))
                exact J46 ((q3 - q1)) ((by simp [own_ts, hc339]))
            by_cases hc322 : (q1 - q2) < (0 : Int64)
            · refine Goes.pre (fun t kt => XS.ifYes X43.here hx rfl (pc0 := 322) (pc' := 330) rfl (hb hby at_322) rfl (Jvm.Free.XT.i0_lt_t ((lw_lt _ _).mpr hc322)) (by decide) (by decide) kt) ?_
              show Goes p e below s _ _ _ (T43.setTop (mkF m 330 #[.val (.long q1), .second, .val (.long q2), .second, .val (.long q3), .second, .val (.int p4), .val (.int p5), .val (.int p6), .val (.int (p5.toInt16.toInt32)), .val (.int (((p5.toUInt32 >>> ((16 : Int32) &&& 31).toUInt32).toInt32).toInt16.toInt32)), .val (.long (q1 - q2)), .second, .val (.long (q3 - q1)), .second, .val (.long (q2 ^^^ q3)), .second, .val (.int (p4 ^^^ p6)), .val (.int (p5 + p6)), .val (.ref b1), .val (.int j10_0), .val (.int j11_0), .val (.int j12_0), .val (.int (1 : Int32)), .unset, .unset, .unset, .unset] []))
              refine Goes.pre (X43.ldc2Long hx hown (mvT hZ (hw _ (List.mem_of_getElem? (i := 51) rfl))) (g := (mkF m 330 #[.val (.long q1), .second, .val (.long q2), .second, .val (.long q3), .second, .val (.int p4), .val (.int p5), .val (.int p6), .val (.int (p5.toInt16.toInt32)), .val (.int (((p5.toUInt32 >>> ((16 : Int32) &&& 31).toUInt32).toInt32).toInt16.toInt32)), .val (.long (q1 - q2)), .second, .val (.long (q3 - q1)), .second, .val (.long (q2 ^^^ q3)), .second, .val (.int (p4 ^^^ p6)), .val (.int (p5 + p6)), .val (.ref b1), .val (.int j10_0), .val (.int j11_0), .val (.int j12_0), .val (.int (1 : Int32)), .unset, .unset, .unset, .unset] [])) rfl (hb hby at_330)) ?_
              show Goes p e below s _ _ _ (T43.setTop (mkF m 333 #[.val (.long q1), .second, .val (.long q2), .second, .val (.long q3), .second, .val (.int p4), .val (.int p5), .val (.int p6), .val (.int (p5.toInt16.toInt32)), .val (.int (((p5.toUInt32 >>> ((16 : Int32) &&& 31).toUInt32).toInt32).toInt16.toInt32)), .val (.long (q1 - q2)), .second, .val (.long (q3 - q1)), .second, .val (.long (q2 ^^^ q3)), .second, .val (.int (p4 ^^^ p6)), .val (.int (p5 + p6)), .val (.ref b1), .val (.int j10_0), .val (.int j11_0), .val (.int j12_0), .val (.int (1 : Int32)), .unset, .unset, .unset, .unset] [(.long (-1 : Int64))]))
              exact J45 ((-1 : Int64)) ((by simp [own_ts, hc322]))
            · refine Goes.pre (fun t kt => XS.ifNo X43.here hx rfl (hb hby at_322) rfl (Jvm.Free.XT.i0_lt_f ((not_congr (lw_lt _ _)).mpr hc322)) kt) ?_
              show Goes p e below s _ _ _ (T43.setTop (mkF m 325 #[.val (.long q1), .second, .val (.long q2), .second, .val (.long q3), .second, .val (.int p4), .val (.int p5), .val (.int p6), .val (.int (p5.toInt16.toInt32)), .val (.int (((p5.toUInt32 >>> ((16 : Int32) &&& 31).toUInt32).toInt32).toInt16.toInt32)), .val (.long (q1 - q2)), .second, .val (.long (q3 - q1)), .second, .val (.long (q2 ^^^ q3)), .second, .val (.int (p4 ^^^ p6)), .val (.int (p5 + p6)), .val (.ref b1), .val (.int j10_0), .val (.int j11_0), .val (.int j12_0), .val (.int (1 : Int32)), .unset, .unset, .unset, .unset] []))
              refine Goes.pre (fun t kt => XS.lload X43.here hx rfl (hb hby at_325) rfl kt) ?_
              show Goes p e below s _ _ _ (T43.setTop (mkF m 327 #[.val (.long q1), .second, .val (.long q2), .second, .val (.long q3), .second, .val (.int p4), .val (.int p5), .val (.int p6), .val (.int (p5.toInt16.toInt32)), .val (.int (((p5.toUInt32 >>> ((16 : Int32) &&& 31).toUInt32).toInt32).toInt16.toInt32)), .val (.long (q1 - q2)), .second, .val (.long (q3 - q1)), .second, .val (.long (q2 ^^^ q3)), .second, .val (.int (p4 ^^^ p6)), .val (.int (p5 + p6)), .val (.ref b1), .val (.int j10_0), .val (.int j11_0), .val (.int j12_0), .val (.int (1 : Int32)), .unset, .unset, .unset, .unset] [(.long (q1 - q2))]))
              refine Goes.pre (fun t kt => XS.goto X43.here hx rfl (pc0 := 327) (pc' := 333) rfl (hb hby at_327) (by decide) (by decide) kt) ?_
              show Goes p e below s _ _ _ (T43.setTop (mkF m 333 #[.val (.long q1), .second, .val (.long q2), .second, .val (.long q3), .second, .val (.int p4), .val (.int p5), .val (.int p6), .val (.int (p5.toInt16.toInt32)), .val (.int (((p5.toUInt32 >>> ((16 : Int32) &&& 31).toUInt32).toInt32).toInt16.toInt32)), .val (.long (q1 - q2)), .second, .val (.long (q3 - q1)), .second, .val (.long (q2 ^^^ q3)), .second, .val (.int (p4 ^^^ p6)), .val (.int (p5 + p6)), .val (.ref b1), .val (.int j10_0), .val (.int j11_0), .val (.int j12_0), .val (.int (1 : Int32)), .unset, .unset, .unset, .unset] [(.long (q1 - q2))]))
              exact J45 ((q1 - q2)) ((by simp [own_ts, hc322]))
          by_cases hc282 : j10_0 = (0 : Int32)
          · refine Goes.pre (fun t kt => XS.ifYes X40.here hx rfl (pc0 := 282) (pc' := 299) rfl (hb hby at_282) rfl (Jvm.Free.XT.i0_eq_t (hc282)) (by decide) (by decide) kt) ?_
            show Goes p e below s _ _ _ (T40.setTop (mkF m 299 #[.val (.long q1), .second, .val (.long q2), .second, .val (.long q3), .second, .val (.int p4), .val (.int p5), .val (.int p6), .val (.int (p5.toInt16.toInt32)), .val (.int (((p5.toUInt32 >>> ((16 : Int32) &&& 31).toUInt32).toInt32).toInt16.toInt32)), .val (.long (q1 - q2)), .second, .val (.long (q3 - q1)), .second, .val (.long (q2 ^^^ q3)), .second, .val (.int (p4 ^^^ p6)), .val (.int (p5 + p6)), .val (.ref b1), .val (.int j10_0), .val (.int j11_0), .val (.int j12_0), .unset, .unset, .unset, .unset, .unset] [(.int (own_tx (q2 ^^^ q3) (p5.toInt16.toInt32)))]))
            refine Goes.pre (fun t kt => XS.iconst X40.here hx rfl (hb hby at_299) kt) ?_
            show Goes p e below s _ _ _ (T40.setTop (mkF m 300 #[.val (.long q1), .second, .val (.long q2), .second, .val (.long q3), .second, .val (.int p4), .val (.int p5), .val (.int p6), .val (.int (p5.toInt16.toInt32)), .val (.int (((p5.toUInt32 >>> ((16 : Int32) &&& 31).toUInt32).toInt32).toInt16.toInt32)), .val (.long (q1 - q2)), .second, .val (.long (q3 - q1)), .second, .val (.long (q2 ^^^ q3)), .second, .val (.int (p4 ^^^ p6)), .val (.int (p5 + p6)), .val (.ref b1), .val (.int j10_0), .val (.int j11_0), .val (.int j12_0), .unset, .unset, .unset, .unset, .unset] [(.int (0 : Int32)), (.int (own_tx (q2 ^^^ q3) (p5.toInt16.toInt32)))]))
            exact J42 ((0 : Int32)) (own_txA hz1 hc282)
          · refine Goes.pre (fun t kt => XS.ifNo X40.here hx rfl (hb hby at_282) rfl (Jvm.Free.XT.i0_eq_f (hc282)) kt) ?_
            show Goes p e below s _ _ _ (T40.setTop (mkF m 285 #[.val (.long q1), .second, .val (.long q2), .second, .val (.long q3), .second, .val (.int p4), .val (.int p5), .val (.int p6), .val (.int (p5.toInt16.toInt32)), .val (.int (((p5.toUInt32 >>> ((16 : Int32) &&& 31).toUInt32).toInt32).toInt16.toInt32)), .val (.long (q1 - q2)), .second, .val (.long (q3 - q1)), .second, .val (.long (q2 ^^^ q3)), .second, .val (.int (p4 ^^^ p6)), .val (.int (p5 + p6)), .val (.ref b1), .val (.int j10_0), .val (.int j11_0), .val (.int j12_0), .unset, .unset, .unset, .unset, .unset] [(.int (own_tx (q2 ^^^ q3) (p5.toInt16.toInt32)))]))
            refine Goes.pre (fun t kt => XS.iload X40.here hx rfl (hb hby at_285) rfl kt) ?_
            show Goes p e below s _ _ _ (T40.setTop (mkF m 287 #[.val (.long q1), .second, .val (.long q2), .second, .val (.long q3), .second, .val (.int p4), .val (.int p5), .val (.int p6), .val (.int (p5.toInt16.toInt32)), .val (.int (((p5.toUInt32 >>> ((16 : Int32) &&& 31).toUInt32).toInt32).toInt16.toInt32)), .val (.long (q1 - q2)), .second, .val (.long (q3 - q1)), .second, .val (.long (q2 ^^^ q3)), .second, .val (.int (p4 ^^^ p6)), .val (.int (p5 + p6)), .val (.ref b1), .val (.int j10_0), .val (.int j11_0), .val (.int j12_0), .unset, .unset, .unset, .unset, .unset] [(.int j12_0), (.int (own_tx (q2 ^^^ q3) (p5.toInt16.toInt32)))]))
            by_cases hc287 : j12_0 = (0 : Int32)
            · refine Goes.pre (fun t kt => XS.ifYes X40.here hx rfl (pc0 := 287) (pc' := 299) rfl (hb hby at_287) rfl (Jvm.Free.XT.i0_eq_t (hc287)) (by decide) (by decide) kt) ?_
              show Goes p e below s _ _ _ (T40.setTop (mkF m 299 #[.val (.long q1), .second, .val (.long q2), .second, .val (.long q3), .second, .val (.int p4), .val (.int p5), .val (.int p6), .val (.int (p5.toInt16.toInt32)), .val (.int (((p5.toUInt32 >>> ((16 : Int32) &&& 31).toUInt32).toInt32).toInt16.toInt32)), .val (.long (q1 - q2)), .second, .val (.long (q3 - q1)), .second, .val (.long (q2 ^^^ q3)), .second, .val (.int (p4 ^^^ p6)), .val (.int (p5 + p6)), .val (.ref b1), .val (.int j10_0), .val (.int j11_0), .val (.int j12_0), .unset, .unset, .unset, .unset, .unset] [(.int (own_tx (q2 ^^^ q3) (p5.toInt16.toInt32)))]))
              refine Goes.pre (fun t kt => XS.iconst X40.here hx rfl (hb hby at_299) kt) ?_
              show Goes p e below s _ _ _ (T40.setTop (mkF m 300 #[.val (.long q1), .second, .val (.long q2), .second, .val (.long q3), .second, .val (.int p4), .val (.int p5), .val (.int p6), .val (.int (p5.toInt16.toInt32)), .val (.int (((p5.toUInt32 >>> ((16 : Int32) &&& 31).toUInt32).toInt32).toInt16.toInt32)), .val (.long (q1 - q2)), .second, .val (.long (q3 - q1)), .second, .val (.long (q2 ^^^ q3)), .second, .val (.int (p4 ^^^ p6)), .val (.int (p5 + p6)), .val (.ref b1), .val (.int j10_0), .val (.int j11_0), .val (.int j12_0), .unset, .unset, .unset, .unset, .unset] [(.int (0 : Int32)), (.int (own_tx (q2 ^^^ q3) (p5.toInt16.toInt32)))]))
              exact J42 ((0 : Int32)) (own_txB hz3 hc287)
            · refine Goes.pre (fun t kt => XS.ifNo X40.here hx rfl (hb hby at_287) rfl (Jvm.Free.XT.i0_eq_f (hc287)) kt) ?_
              show Goes p e below s _ _ _ (T40.setTop (mkF m 290 #[.val (.long q1), .second, .val (.long q2), .second, .val (.long q3), .second, .val (.int p4), .val (.int p5), .val (.int p6), .val (.int (p5.toInt16.toInt32)), .val (.int (((p5.toUInt32 >>> ((16 : Int32) &&& 31).toUInt32).toInt32).toInt16.toInt32)), .val (.long (q1 - q2)), .second, .val (.long (q3 - q1)), .second, .val (.long (q2 ^^^ q3)), .second, .val (.int (p4 ^^^ p6)), .val (.int (p5 + p6)), .val (.ref b1), .val (.int j10_0), .val (.int j11_0), .val (.int j12_0), .unset, .unset, .unset, .unset, .unset] [(.int (own_tx (q2 ^^^ q3) (p5.toInt16.toInt32)))]))
              refine Goes.pre (fun t kt => XS.iload X40.here hx rfl (hb hby at_290) rfl kt) ?_
              show Goes p e below s _ _ _ (T40.setTop (mkF m 292 #[.val (.long q1), .second, .val (.long q2), .second, .val (.long q3), .second, .val (.int p4), .val (.int p5), .val (.int p6), .val (.int (p5.toInt16.toInt32)), .val (.int (((p5.toUInt32 >>> ((16 : Int32) &&& 31).toUInt32).toInt32).toInt16.toInt32)), .val (.long (q1 - q2)), .second, .val (.long (q3 - q1)), .second, .val (.long (q2 ^^^ q3)), .second, .val (.int (p4 ^^^ p6)), .val (.int (p5 + p6)), .val (.ref b1), .val (.int j10_0), .val (.int j11_0), .val (.int j12_0), .unset, .unset, .unset, .unset, .unset] [(.int j11_0), (.int (own_tx (q2 ^^^ q3) (p5.toInt16.toInt32)))]))
              by_cases hc292 : j11_0 = (0 : Int32)
              · refine Goes.pre (fun t kt => XS.ifNo X40.here hx rfl (hb hby at_292) rfl (Jvm.Free.XT.i0_ne_f (hc292)) kt) ?_
                show Goes p e below s _ _ _ (T40.setTop (mkF m 295 #[.val (.long q1), .second, .val (.long q2), .second, .val (.long q3), .second, .val (.int p4), .val (.int p5), .val (.int p6), .val (.int (p5.toInt16.toInt32)), .val (.int (((p5.toUInt32 >>> ((16 : Int32) &&& 31).toUInt32).toInt32).toInt16.toInt32)), .val (.long (q1 - q2)), .second, .val (.long (q3 - q1)), .second, .val (.long (q2 ^^^ q3)), .second, .val (.int (p4 ^^^ p6)), .val (.int (p5 + p6)), .val (.ref b1), .val (.int j10_0), .val (.int j11_0), .val (.int j12_0), .unset, .unset, .unset, .unset, .unset] [(.int (own_tx (q2 ^^^ q3) (p5.toInt16.toInt32)))]))
                refine Goes.pre (fun t kt => XS.iconst X40.here hx rfl (hb hby at_295) kt) ?_
                show Goes p e below s _ _ _ (T40.setTop (mkF m 296 #[.val (.long q1), .second, .val (.long q2), .second, .val (.long q3), .second, .val (.int p4), .val (.int p5), .val (.int p6), .val (.int (p5.toInt16.toInt32)), .val (.int (((p5.toUInt32 >>> ((16 : Int32) &&& 31).toUInt32).toInt32).toInt16.toInt32)), .val (.long (q1 - q2)), .second, .val (.long (q3 - q1)), .second, .val (.long (q2 ^^^ q3)), .second, .val (.int (p4 ^^^ p6)), .val (.int (p5 + p6)), .val (.ref b1), .val (.int j10_0), .val (.int j11_0), .val (.int j12_0), .unset, .unset, .unset, .unset, .unset] [(.int (1 : Int32)), (.int (own_tx (q2 ^^^ q3) (p5.toInt16.toInt32)))]))
                refine Goes.pre (fun t kt => XS.goto X40.here hx rfl (pc0 := 296) (pc' := 300) rfl (hb hby at_296) (by decide) (by decide) kt) ?_
                show Goes p e below s _ _ _ (T40.setTop (mkF m 300 #[.val (.long q1), .second, .val (.long q2), .second, .val (.long q3), .second, .val (.int p4), .val (.int p5), .val (.int p6), .val (.int (p5.toInt16.toInt32)), .val (.int (((p5.toUInt32 >>> ((16 : Int32) &&& 31).toUInt32).toInt32).toInt16.toInt32)), .val (.long (q1 - q2)), .second, .val (.long (q3 - q1)), .second, .val (.long (q2 ^^^ q3)), .second, .val (.int (p4 ^^^ p6)), .val (.int (p5 + p6)), .val (.ref b1), .val (.int j10_0), .val (.int j11_0), .val (.int j12_0), .unset, .unset, .unset, .unset, .unset] [(.int (1 : Int32)), (.int (own_tx (q2 ^^^ q3) (p5.toInt16.toInt32)))]))
                exact J42 ((1 : Int32)) (own_txC hz1 hz3 hz2 hc282 hc287 hc292)
              · refine Goes.pre (fun t kt => XS.ifYes X40.here hx rfl (pc0 := 292) (pc' := 299) rfl (hb hby at_292) rfl (Jvm.Free.XT.i0_ne_t (hc292)) (by decide) (by decide) kt) ?_
                show Goes p e below s _ _ _ (T40.setTop (mkF m 299 #[.val (.long q1), .second, .val (.long q2), .second, .val (.long q3), .second, .val (.int p4), .val (.int p5), .val (.int p6), .val (.int (p5.toInt16.toInt32)), .val (.int (((p5.toUInt32 >>> ((16 : Int32) &&& 31).toUInt32).toInt32).toInt16.toInt32)), .val (.long (q1 - q2)), .second, .val (.long (q3 - q1)), .second, .val (.long (q2 ^^^ q3)), .second, .val (.int (p4 ^^^ p6)), .val (.int (p5 + p6)), .val (.ref b1), .val (.int j10_0), .val (.int j11_0), .val (.int j12_0), .unset, .unset, .unset, .unset, .unset] [(.int (own_tx (q2 ^^^ q3) (p5.toInt16.toInt32)))]))
                refine Goes.pre (fun t kt => XS.iconst X40.here hx rfl (hb hby at_299) kt) ?_
                show Goes p e below s _ _ _ (T40.setTop (mkF m 300 #[.val (.long q1), .second, .val (.long q2), .second, .val (.long q3), .second, .val (.int p4), .val (.int p5), .val (.int p6), .val (.int (p5.toInt16.toInt32)), .val (.int (((p5.toUInt32 >>> ((16 : Int32) &&& 31).toUInt32).toInt32).toInt16.toInt32)), .val (.long (q1 - q2)), .second, .val (.long (q3 - q1)), .second, .val (.long (q2 ^^^ q3)), .second, .val (.int (p4 ^^^ p6)), .val (.int (p5 + p6)), .val (.ref b1), .val (.int j10_0), .val (.int j11_0), .val (.int j12_0), .unset, .unset, .unset, .unset, .unset] [(.int (0 : Int32)), (.int (own_tx (q2 ^^^ q3) (p5.toInt16.toInt32)))]))
                exact J42 ((0 : Int32)) (own_txD hz2 hc292)
        by_cases hc259 : j10_0 = (0 : Int32)
        · refine Goes.pre (fun t kt => XS.ifYes X37.here hx rfl (pc0 := 259) (pc' := 271) rfl (hb hby at_259) rfl (Jvm.Free.XT.i0_eq_t (hc259)) (by decide) (by decide) kt) ?_
          show Goes p e below s _ _ _ (T37.setTop (mkF m 271 #[.val (.long q1), .second, .val (.long q2), .second, .val (.long q3), .second, .val (.int p4), .val (.int p5), .val (.int p6), .val (.int (p5.toInt16.toInt32)), .val (.int (((p5.toUInt32 >>> ((16 : Int32) &&& 31).toUInt32).toInt32).toInt16.toInt32)), .val (.long (q1 - q2)), .second, .val (.long (q3 - q1)), .second, .val (.long (q2 ^^^ q3)), .second, .val (.int (p4 ^^^ p6)), .val (.int (p5 + p6)), .val (.ref b1), .val (.int j10_0), .val (.int j11_0), .val (.int j12_0), .unset, .unset, .unset, .unset, .unset] [(.int (own_mk (q2 ^^^ q3) (p5.toInt16.toInt32)))]))
          refine Goes.pre (fun t kt => XS.iconst X37.here hx rfl (hb hby at_271) kt) ?_
          show Goes p e below s _ _ _ (T37.setTop (mkF m 272 #[.val (.long q1), .second, .val (.long q2), .second, .val (.long q3), .second, .val (.int p4), .val (.int p5), .val (.int p6), .val (.int (p5.toInt16.toInt32)), .val (.int (((p5.toUInt32 >>> ((16 : Int32) &&& 31).toUInt32).toInt32).toInt16.toInt32)), .val (.long (q1 - q2)), .second, .val (.long (q3 - q1)), .second, .val (.long (q2 ^^^ q3)), .second, .val (.int (p4 ^^^ p6)), .val (.int (p5 + p6)), .val (.ref b1), .val (.int j10_0), .val (.int j11_0), .val (.int j12_0), .unset, .unset, .unset, .unset, .unset] [(.int (0 : Int32)), (.int (own_mk (q2 ^^^ q3) (p5.toInt16.toInt32)))]))
          exact J39 ((0 : Int32)) (own_mkA hz1 hc259)
        · refine Goes.pre (fun t kt => XS.ifNo X37.here hx rfl (hb hby at_259) rfl (Jvm.Free.XT.i0_eq_f (hc259)) kt) ?_
          show Goes p e below s _ _ _ (T37.setTop (mkF m 262 #[.val (.long q1), .second, .val (.long q2), .second, .val (.long q3), .second, .val (.int p4), .val (.int p5), .val (.int p6), .val (.int (p5.toInt16.toInt32)), .val (.int (((p5.toUInt32 >>> ((16 : Int32) &&& 31).toUInt32).toInt32).toInt16.toInt32)), .val (.long (q1 - q2)), .second, .val (.long (q3 - q1)), .second, .val (.long (q2 ^^^ q3)), .second, .val (.int (p4 ^^^ p6)), .val (.int (p5 + p6)), .val (.ref b1), .val (.int j10_0), .val (.int j11_0), .val (.int j12_0), .unset, .unset, .unset, .unset, .unset] [(.int (own_mk (q2 ^^^ q3) (p5.toInt16.toInt32)))]))
          refine Goes.pre (fun t kt => XS.iload X37.here hx rfl (hb hby at_262) rfl kt) ?_
          show Goes p e below s _ _ _ (T37.setTop (mkF m 264 #[.val (.long q1), .second, .val (.long q2), .second, .val (.long q3), .second, .val (.int p4), .val (.int p5), .val (.int p6), .val (.int (p5.toInt16.toInt32)), .val (.int (((p5.toUInt32 >>> ((16 : Int32) &&& 31).toUInt32).toInt32).toInt16.toInt32)), .val (.long (q1 - q2)), .second, .val (.long (q3 - q1)), .second, .val (.long (q2 ^^^ q3)), .second, .val (.int (p4 ^^^ p6)), .val (.int (p5 + p6)), .val (.ref b1), .val (.int j10_0), .val (.int j11_0), .val (.int j12_0), .unset, .unset, .unset, .unset, .unset] [(.int j11_0), (.int (own_mk (q2 ^^^ q3) (p5.toInt16.toInt32)))]))
          by_cases hc264 : j11_0 = (0 : Int32)
          · refine Goes.pre (fun t kt => XS.ifYes X37.here hx rfl (pc0 := 264) (pc' := 271) rfl (hb hby at_264) rfl (Jvm.Free.XT.i0_eq_t (hc264)) (by decide) (by decide) kt) ?_
            show Goes p e below s _ _ _ (T37.setTop (mkF m 271 #[.val (.long q1), .second, .val (.long q2), .second, .val (.long q3), .second, .val (.int p4), .val (.int p5), .val (.int p6), .val (.int (p5.toInt16.toInt32)), .val (.int (((p5.toUInt32 >>> ((16 : Int32) &&& 31).toUInt32).toInt32).toInt16.toInt32)), .val (.long (q1 - q2)), .second, .val (.long (q3 - q1)), .second, .val (.long (q2 ^^^ q3)), .second, .val (.int (p4 ^^^ p6)), .val (.int (p5 + p6)), .val (.ref b1), .val (.int j10_0), .val (.int j11_0), .val (.int j12_0), .unset, .unset, .unset, .unset, .unset] [(.int (own_mk (q2 ^^^ q3) (p5.toInt16.toInt32)))]))
            refine Goes.pre (fun t kt => XS.iconst X37.here hx rfl (hb hby at_271) kt) ?_
            show Goes p e below s _ _ _ (T37.setTop (mkF m 272 #[.val (.long q1), .second, .val (.long q2), .second, .val (.long q3), .second, .val (.int p4), .val (.int p5), .val (.int p6), .val (.int (p5.toInt16.toInt32)), .val (.int (((p5.toUInt32 >>> ((16 : Int32) &&& 31).toUInt32).toInt32).toInt16.toInt32)), .val (.long (q1 - q2)), .second, .val (.long (q3 - q1)), .second, .val (.long (q2 ^^^ q3)), .second, .val (.int (p4 ^^^ p6)), .val (.int (p5 + p6)), .val (.ref b1), .val (.int j10_0), .val (.int j11_0), .val (.int j12_0), .unset, .unset, .unset, .unset, .unset] [(.int (0 : Int32)), (.int (own_mk (q2 ^^^ q3) (p5.toInt16.toInt32)))]))
            exact J39 ((0 : Int32)) (own_mkB hz2 hc264)
          · refine Goes.pre (fun t kt => XS.ifNo X37.here hx rfl (hb hby at_264) rfl (Jvm.Free.XT.i0_eq_f (hc264)) kt) ?_
            show Goes p e below s _ _ _ (T37.setTop (mkF m 267 #[.val (.long q1), .second, .val (.long q2), .second, .val (.long q3), .second, .val (.int p4), .val (.int p5), .val (.int p6), .val (.int (p5.toInt16.toInt32)), .val (.int (((p5.toUInt32 >>> ((16 : Int32) &&& 31).toUInt32).toInt32).toInt16.toInt32)), .val (.long (q1 - q2)), .second, .val (.long (q3 - q1)), .second, .val (.long (q2 ^^^ q3)), .second, .val (.int (p4 ^^^ p6)), .val (.int (p5 + p6)), .val (.ref b1), .val (.int j10_0), .val (.int j11_0), .val (.int j12_0), .unset, .unset, .unset, .unset, .unset] [(.int (own_mk (q2 ^^^ q3) (p5.toInt16.toInt32)))]))
            refine Goes.pre (fun t kt => XS.iconst X37.here hx rfl (hb hby at_267) kt) ?_
            show Goes p e below s _ _ _ (T37.setTop (mkF m 268 #[.val (.long q1), .second, .val (.long q2), .second, .val (.long q3), .second, .val (.int p4), .val (.int p5), .val (.int p6), .val (.int (p5.toInt16.toInt32)), .val (.int (((p5.toUInt32 >>> ((16 : Int32) &&& 31).toUInt32).toInt32).toInt16.toInt32)), .val (.long (q1 - q2)), .second, .val (.long (q3 - q1)), .second, .val (.long (q2 ^^^ q3)), .second, .val (.int (p4 ^^^ p6)), .val (.int (p5 + p6)), .val (.ref b1), .val (.int j10_0), .val (.int j11_0), .val (.int j12_0), .unset, .unset, .unset, .unset, .unset] [(.int (1 : Int32)), (.int (own_mk (q2 ^^^ q3) (p5.toInt16.toInt32)))]))
            refine Goes.pre (fun t kt => XS.goto X37.here hx rfl (pc0 := 268) (pc' := 272) rfl (hb hby at_268) (by decide) (by decide) kt) ?_
            show Goes p e below s _ _ _ (T37.setTop (mkF m 272 #[.val (.long q1), .second, .val (.long q2), .second, .val (.long q3), .second, .val (.int p4), .val (.int p5), .val (.int p6), .val (.int (p5.toInt16.toInt32)), .val (.int (((p5.toUInt32 >>> ((16 : Int32) &&& 31).toUInt32).toInt32).toInt16.toInt32)), .val (.long (q1 - q2)), .second, .val (.long (q3 - q1)), .second, .val (.long (q2 ^^^ q3)), .second, .val (.int (p4 ^^^ p6)), .val (.int (p5 + p6)), .val (.ref b1), .val (.int j10_0), .val (.int j11_0), .val (.int j12_0), .unset, .unset, .unset, .unset, .unset] [(.int (1 : Int32)), (.int (own_mk (q2 ^^^ q3) (p5.toInt16.toInt32)))]))
            exact J39 ((1 : Int32)) (own_mkC hz1 hz2 hc259 hc264)
      by_cases hc125 : ((p5.toInt16.toInt32) &&& (16 : Int32)) = (0 : Int32)
      · refine Goes.pre (fun t kt => XS.ifYes X8.here hx rfl (pc0 := 125) (pc' := 132) rfl (hb hby at_125) rfl (Jvm.Free.XT.i0_eq_t (hc125)) (by decide) (by decide) kt) ?_
        show Goes p e below s _ _ _ (T8.setTop (mkF m 132 #[.val (.long q1), .second, .val (.long q2), .second, .val (.long q3), .second, .val (.int p4), .val (.int p5), .val (.int p6), .val (.int (p5.toInt16.toInt32)), .val (.int (((p5.toUInt32 >>> ((16 : Int32) &&& 31).toUInt32).toInt32).toInt16.toInt32)), .val (.long (q1 - q2)), .second, .val (.long (q3 - q1)), .second, .val (.long (q2 ^^^ q3)), .second, .val (.int (p4 ^^^ p6)), .val (.int (p5 + p6)), .val (.ref b1), .val (.int j10_0), .val (.int j11_0), .unset, .unset, .unset, .unset, .unset, .unset] []))
        refine Goes.pre (fun t kt => XS.iconst X8.here hx rfl (hb hby at_132) kt) ?_
        show Goes p e below s _ _ _ (T8.setTop (mkF m 133 #[.val (.long q1), .second, .val (.long q2), .second, .val (.long q3), .second, .val (.int p4), .val (.int p5), .val (.int p6), .val (.int (p5.toInt16.toInt32)), .val (.int (((p5.toUInt32 >>> ((16 : Int32) &&& 31).toUInt32).toInt32).toInt16.toInt32)), .val (.long (q1 - q2)), .second, .val (.long (q3 - q1)), .second, .val (.long (q2 ^^^ q3)), .second, .val (.int (p4 ^^^ p6)), .val (.int (p5 + p6)), .val (.ref b1), .val (.int j10_0), .val (.int j11_0), .unset, .unset, .unset, .unset, .unset, .unset] [(.int (0 : Int32))]))
        exact J12 ((0 : Int32)) ((by simp [own_bit, hc125]))
      · refine Goes.pre (fun t kt => XS.ifNo X8.here hx rfl (hb hby at_125) rfl (Jvm.Free.XT.i0_eq_f (hc125)) kt) ?_
        show Goes p e below s _ _ _ (T8.setTop (mkF m 128 #[.val (.long q1), .second, .val (.long q2), .second, .val (.long q3), .second, .val (.int p4), .val (.int p5), .val (.int p6), .val (.int (p5.toInt16.toInt32)), .val (.int (((p5.toUInt32 >>> ((16 : Int32) &&& 31).toUInt32).toInt32).toInt16.toInt32)), .val (.long (q1 - q2)), .second, .val (.long (q3 - q1)), .second, .val (.long (q2 ^^^ q3)), .second, .val (.int (p4 ^^^ p6)), .val (.int (p5 + p6)), .val (.ref b1), .val (.int j10_0), .val (.int j11_0), .unset, .unset, .unset, .unset, .unset, .unset] []))
        refine Goes.pre (fun t kt => XS.iconst X8.here hx rfl (hb hby at_128) kt) ?_
        show Goes p e below s _ _ _ (T8.setTop (mkF m 129 #[.val (.long q1), .second, .val (.long q2), .second, .val (.long q3), .second, .val (.int p4), .val (.int p5), .val (.int p6), .val (.int (p5.toInt16.toInt32)), .val (.int (((p5.toUInt32 >>> ((16 : Int32) &&& 31).toUInt32).toInt32).toInt16.toInt32)), .val (.long (q1 - q2)), .second, .val (.long (q3 - q1)), .second, .val (.long (q2 ^^^ q3)), .second, .val (.int (p4 ^^^ p6)), .val (.int (p5 + p6)), .val (.ref b1), .val (.int j10_0), .val (.int j11_0), .unset, .unset, .unset, .unset, .unset, .unset] [(.int (1 : Int32))]))
        refine Goes.pre (fun t kt => XS.goto X8.here hx rfl (pc0 := 129) (pc' := 133) rfl (hb hby at_129) (by decide) (by decide) kt) ?_
        show Goes p e below s _ _ _ (T8.setTop (mkF m 133 #[.val (.long q1), .second, .val (.long q2), .second, .val (.long q3), .second, .val (.int p4), .val (.int p5), .val (.int p6), .val (.int (p5.toInt16.toInt32)), .val (.int (((p5.toUInt32 >>> ((16 : Int32) &&& 31).toUInt32).toInt32).toInt16.toInt32)), .val (.long (q1 - q2)), .second, .val (.long (q3 - q1)), .second, .val (.long (q2 ^^^ q3)), .second, .val (.int (p4 ^^^ p6)), .val (.int (p5 + p6)), .val (.ref b1), .val (.int j10_0), .val (.int j11_0), .unset, .unset, .unset, .unset, .unset, .unset] [(.int (1 : Int32))]))
        exact J12 ((1 : Int32)) ((by simp [own_bit, hc125]))
    by_cases hc110 : ((p5.toInt16.toInt32) &&& (32 : Int32)) = (0 : Int32)
    · refine Goes.pre (fun t kt => XS.ifYes X8.here hx rfl (pc0 := 110) (pc' := 117) rfl (hb hby at_110) rfl (Jvm.Free.XT.i0_eq_t (hc110)) (by decide) (by decide) kt) ?_
      show Goes p e below s _ _ _ (T8.setTop (mkF m 117 #[.val (.long q1), .second, .val (.long q2), .second, .val (.long q3), .second, .val (.int p4), .val (.int p5), .val (.int p6), .val (.int (p5.toInt16.toInt32)), .val (.int (((p5.toUInt32 >>> ((16 : Int32) &&& 31).toUInt32).toInt32).toInt16.toInt32)), .val (.long (q1 - q2)), .second, .val (.long (q3 - q1)), .second, .val (.long (q2 ^^^ q3)), .second, .val (.int (p4 ^^^ p6)), .val (.int (p5 + p6)), .val (.ref b1), .val (.int j10_0), .unset, .unset, .unset, .unset, .unset, .unset, .unset] []))
      refine Goes.pre (fun t kt => XS.iconst X8.here hx rfl (hb hby at_117) kt) ?_
      show Goes p e below s _ _ _ (T8.setTop (mkF m 118 #[.val (.long q1), .second, .val (.long q2), .second, .val (.long q3), .second, .val (.int p4), .val (.int p5), .val (.int p6), .val (.int (p5.toInt16.toInt32)), .val (.int (((p5.toUInt32 >>> ((16 : Int32) &&& 31).toUInt32).toInt32).toInt16.toInt32)), .val (.long (q1 - q2)), .second, .val (.long (q3 - q1)), .second, .val (.long (q2 ^^^ q3)), .second, .val (.int (p4 ^^^ p6)), .val (.int (p5 + p6)), .val (.ref b1), .val (.int j10_0), .unset, .unset, .unset, .unset, .unset, .unset, .unset] [(.int (0 : Int32))]))
      exact J11 ((0 : Int32)) ((by simp [own_bit, hc110]))
    · refine Goes.pre (fun t kt => XS.ifNo X8.here hx rfl (hb hby at_110) rfl (Jvm.Free.XT.i0_eq_f (hc110)) kt) ?_
      show Goes p e below s _ _ _ (T8.setTop (mkF m 113 #[.val (.long q1), .second, .val (.long q2), .second, .val (.long q3), .second, .val (.int p4), .val (.int p5), .val (.int p6), .val (.int (p5.toInt16.toInt32)), .val (.int (((p5.toUInt32 >>> ((16 : Int32) &&& 31).toUInt32).toInt32).toInt16.toInt32)), .val (.long (q1 - q2)), .second, .val (.long (q3 - q1)), .second, .val (.long (q2 ^^^ q3)), .second, .val (.int (p4 ^^^ p6)), .val (.int (p5 + p6)), .val (.ref b1), .val (.int j10_0), .unset, .unset, .unset, .unset, .unset, .unset, .unset] []))
      refine Goes.pre (fun t kt => XS.iconst X8.here hx rfl (hb hby at_113) kt) ?_
      show Goes p e below s _ _ _ (T8.setTop (mkF m 114 #[.val (.long q1), .second, .val (.long q2), .second, .val (.long q3), .second, .val (.int p4), .val (.int p5), .val (.int p6), .val (.int (p5.toInt16.toInt32)), .val (.int (((p5.toUInt32 >>> ((16 : Int32) &&& 31).toUInt32).toInt32).toInt16.toInt32)), .val (.long (q1 - q2)), .second, .val (.long (q3 - q1)), .second, .val (.long (q2 ^^^ q3)), .second, .val (.int (p4 ^^^ p6)), .val (.int (p5 + p6)), .val (.ref b1), .val (.int j10_0), .unset, .unset, .unset, .unset, .unset, .unset, .unset] [(.int (1 : Int32))]))
      refine Goes.pre (fun t kt => XS.goto X8.here hx rfl (pc0 := 114) (pc' := 118) rfl (hb hby at_114) (by decide) (by decide) kt) ?_
      show Goes p e below s _ _ _ (T8.setTop (mkF m 118 #[.val (.long q1), .second, .val (.long q2), .second, .val (.long q3), .second, .val (.int p4), .val (.int p5), .val (.int p6), .val (.int (p5.toInt16.toInt32)), .val (.int (((p5.toUInt32 >>> ((16 : Int32) &&& 31).toUInt32).toInt32).toInt16.toInt32)), .val (.long (q1 - q2)), .second, .val (.long (q3 - q1)), .second, .val (.long (q2 ^^^ q3)), .second, .val (.int (p4 ^^^ p6)), .val (.int (p5 + p6)), .val (.ref b1), .val (.int j10_0), .unset, .unset, .unset, .unset, .unset, .unset, .unset] [(.int (1 : Int32))]))
      exact J11 ((1 : Int32)) ((by simp [own_bit, hc110]))
  by_cases hc95 : (q2 ^^^ q3) = (-1 : Int64)
  · refine Goes.pre (fun t kt => XS.ifYes X8.here hx rfl (pc0 := 95) (pc' := 102) rfl (hb hby at_95) rfl (Jvm.Free.XT.i0_eq_t ((lw_eq _ _).mpr hc95)) (by decide) (by decide) kt) ?_
    show Goes p e below s _ _ _ (T8.setTop (mkF m 102 #[.val (.long q1), .second, .val (.long q2), .second, .val (.long q3), .second, .val (.int p4), .val (.int p5), .val (.int p6), .val (.int (p5.toInt16.toInt32)), .val (.int (((p5.toUInt32 >>> ((16 : Int32) &&& 31).toUInt32).toInt32).toInt16.toInt32)), .val (.long (q1 - q2)), .second, .val (.long (q3 - q1)), .second, .val (.long (q2 ^^^ q3)), .second, .val (.int (p4 ^^^ p6)), .val (.int (p5 + p6)), .val (.ref b1), .unset, .unset, .unset, .unset, .unset, .unset, .unset, .unset] []))
    refine Goes.pre (fun t kt => XS.iconst X8.here hx rfl (hb hby at_102) kt) ?_
    show Goes p e below s _ _ _ (T8.setTop (mkF m 103 #[.val (.long q1), .second, .val (.long q2), .second, .val (.long q3), .second, .val (.int p4), .val (.int p5), .val (.int p6), .val (.int (p5.toInt16.toInt32)), .val (.int (((p5.toUInt32 >>> ((16 : Int32) &&& 31).toUInt32).toInt32).toInt16.toInt32)), .val (.long (q1 - q2)), .second, .val (.long (q3 - q1)), .second, .val (.long (q2 ^^^ q3)), .second, .val (.int (p4 ^^^ p6)), .val (.int (p5 + p6)), .val (.ref b1), .unset, .unset, .unset, .unset, .unset, .unset, .unset, .unset] [(.int (0 : Int32))]))
    exact J10 ((0 : Int32)) ((by simp [own_nz, hc95]))
  · refine Goes.pre (fun t kt => XS.ifNo X8.here hx rfl (hb hby at_95) rfl (Jvm.Free.XT.i0_eq_f ((not_congr (lw_eq _ _)).mpr hc95)) kt) ?_
    show Goes p e below s _ _ _ (T8.setTop (mkF m 98 #[.val (.long q1), .second, .val (.long q2), .second, .val (.long q3), .second, .val (.int p4), .val (.int p5), .val (.int p6), .val (.int (p5.toInt16.toInt32)), .val (.int (((p5.toUInt32 >>> ((16 : Int32) &&& 31).toUInt32).toInt32).toInt16.toInt32)), .val (.long (q1 - q2)), .second, .val (.long (q3 - q1)), .second, .val (.long (q2 ^^^ q3)), .second, .val (.int (p4 ^^^ p6)), .val (.int (p5 + p6)), .val (.ref b1), .unset, .unset, .unset, .unset, .unset, .unset, .unset, .unset] []))
    refine Goes.pre (fun t kt => XS.iconst X8.here hx rfl (hb hby at_98) kt) ?_
    show Goes p e below s _ _ _ (T8.setTop (mkF m 99 #[.val (.long q1), .second, .val (.long q2), .second, .val (.long q3), .second, .val (.int p4), .val (.int p5), .val (.int p6), .val (.int (p5.toInt16.toInt32)), .val (.int (((p5.toUInt32 >>> ((16 : Int32) &&& 31).toUInt32).toInt32).toInt16.toInt32)), .val (.long (q1 - q2)), .second, .val (.long (q3 - q1)), .second, .val (.long (q2 ^^^ q3)), .second, .val (.int (p4 ^^^ p6)), .val (.int (p5 + p6)), .val (.ref b1), .unset, .unset, .unset, .unset, .unset, .unset, .unset, .unset] [(.int (1 : Int32))]))
    refine Goes.pre (fun t kt => XS.goto X8.here hx rfl (pc0 := 99) (pc' := 103) rfl (hb hby at_99) (by decide) (by decide) kt) ?_
    show Goes p e below s _ _ _ (T8.setTop (mkF m 103 #[.val (.long q1), .second, .val (.long q2), .second, .val (.long q3), .second, .val (.int p4), .val (.int p5), .val (.int p6), .val (.int (p5.toInt16.toInt32)), .val (.int (((p5.toUInt32 >>> ((16 : Int32) &&& 31).toUInt32).toInt32).toInt16.toInt32)), .val (.long (q1 - q2)), .second, .val (.long (q3 - q1)), .second, .val (.long (q2 ^^^ q3)), .second, .val (.int (p4 ^^^ p6)), .val (.int (p5 + p6)), .val (.ref b1), .unset, .unset, .unset, .unset, .unset, .unset, .unset, .unset] [(.int (1 : Int32))]))
    exact J10 ((1 : Int32)) ((by simp [own_nz, hc95]))
set_option maxRecDepth 65536 in
set_option maxHeartbeats 40000000 in
theorem comes_1 {Post : Tables → Env → Array Value → State → Outcome → State → Prop} (hpost : ∀ tb e args s v u, (limb_1_1.after args s (.returned v) u = true ∧ limb_1_2.after args s (.returned v) u = true ∧ True) → FrameEnd s (.returned v) u (Jvm.fieldLocs frame_1_writes args s ++ Jvm.arrayLocs frame_1_arrays args s ++ Jvm.staticLocs frame_1_statics s) 16 128 → Post tb e args s (.returned v) u) :
    ArmFor flags0 classFile x code maxLocals ret World_1 tables_1 room_1 Calls_1 rest_1 Pre_1 Post := by
  intro l hfl _ _ p e ha hc hk s m args below hf hA hF happ hP
  obtain ⟨hcalls, hrest, hpre⟩ := hP
  obtain ⟨-, -, -, hnamed, -, -, -, hat⟩ := (Spec.applies_iff hf).mp happ
  obtain ⟨hg, hn⟩ := and_e (Cond.before_iff.mp (show (Jvm.Cond.and given_1 narrow_1).before args s = true from hpre))
  obtain ⟨gv1, gv2⟩ := and_e hg
  obtain ⟨gv3, gv4⟩ := and_e gv2
  obtain ⟨gv5, gv6⟩ := and_e gv4
  obtain ⟨gv7, gv8⟩ := and_e gv6
  obtain ⟨gv9, gv10⟩ := and_e gv8
  obtain ⟨gv11, gv12⟩ := and_e gv10
  obtain ⟨w0, w1, w2, w3, w4, w5, rfl⟩ : ∃ w0 w1 w2 w3 w4 w5 : Value, args = #[w0, w1, w2, w3, w4, w5] := by
    have hs : args.size = 6 := by simpa [Cond.value, given_1] using gv1
    obtain ⟨L⟩ := args
    match L, hs with
    | [w0, w1, w2, w3, w4, w5], _ => exact ⟨w0, w1, w2, w3, w4, w5, rfl⟩
  have hw := fun d (hd : d ∈ tables_1) => atoms_spec (ws := Jvm.Cond.code x code maxLocals ret :: tables_1) hat d (List.mem_cons_of_mem _ hd)
  have hfit : Fit s := fun {y c} hc i hi => by
    obtain ⟨ha, rfl⟩ := Array.getElem?_eq_some_iff.mp hc
    have q := List.all_eq_true.mp ((Array.all_eq_true_iff_forall_mem.mp hF) _ (Array.getElem_mem ha)) i (List.mem_range.mpr hi)
    simpa [Array.getElem?_eq_getElem hi] using q
  obtain ⟨i0, ei0⟩ := isL_v gv3
  obtain rfl : w0 = (.long i0) := Option.some.inj ei0
  obtain ⟨i1, ei1⟩ := isL_v gv5
  obtain rfl : w1 = (.long i1) := Option.some.inj ei1
  obtain ⟨i2, ei2⟩ := isL_v gv7
  obtain rfl : w2 = (.long i2) := Option.some.inj ei2
  obtain ⟨i3, ei3⟩ := is_v gv9
  obtain rfl : w3 = (.int i3) := Option.some.inj ei3
  obtain ⟨i4, ei4⟩ := is_v gv11
  obtain rfl : w4 = (.int i4) := Option.some.inj ei4
  obtain ⟨i5, ei5⟩ := is_v gv12
  obtain rfl : w5 = (.int i5) := Option.some.inj ei5
  obtain ⟨w1, ew1⟩ := exa_v hn
  obtain ⟨n, o, h1, h2, h3, _, L, rfl, ⟨rfl, N⟩, hq⟩ := rm0 l s _ hw tables_1 i0 i1 i2 i3 i4 i5 w1 s.heap s.heap.size (Nat.le_refl _) (Sta.start ew1 (Or.inr ⟨hw _ (List.mem_of_getElem? (i := 10) rfl), hw _ (List.mem_of_getElem? (i := 11) rfl)⟩)) p e ha hc hk s m _ below hf ((Spec.applies_iff_loose hf).mp happ).1 ⟨rfl, State.Warmed39.refl s, rfl⟩ trivial
  refine ⟨n, _, h1, h2, h3, hpost _ _ _ _ _ _ ⟨Cond.after_iff.mpr rfl, Cond.after_iff.mpr (eq_i res_at (Term.int_eval (1)) rfl), trivial⟩ ⟨hq.1, hq.2.1, (hq.2.2.sift fun y hy => Or.inr (N y hy)).mono (by decide) (by decide)⟩⟩
theorem main_1_1 : Claimed_1_1 := comes_1 fun _ _ _ _ _ _ h hF => ⟨h.1, hF⟩
theorem main_1_2 : Claimed_1_2 := comes_1 fun _ _ _ _ _ _ h hF => ⟨h.2.1, hF⟩
end Jvm.Pilot.@@N@@
namespace Jvm.Pilot.@@N@@
open Jvm Jvm.ClassFile Sem Op Lib Jvm.Free Jvm.Stand Jvm.Pilot.@@N@@.Jvm.D
/-! MADE BY PROGRAM (witnessworld.py) out of the Statement's table words and the real class files: 13 classes; the members and pool entries that the words name. The judged class is class 1, her method 1. -/
namespace start1
open Jvm.ClassFile
def u (s : String) : CpInfo := .utf8 (stringToUtf16 s)
/-- a pool by its gaps: so many unusable entries, then the entry; so many at the end -/
def gap : Nat → List CpInfo → List CpInfo
  | 0, r => r
  | n + 1, r => .unusable :: gap n r
def poolList (es : List (Nat × CpInfo)) (last : Nat) : List CpInfo := es.foldr (fun e r => gap e.1 (e.2 :: r)) (gap last [])
def pool (es : List (Nat × CpInfo)) (last : Nat) : Array CpInfo := ⟨poolList es last⟩
def fileOf (pool : Array CpInfo) (this : Nat) (attrs : Array Attribute := #[]) (ms : Array MethodInfo := #[]) (fl : Nat := 33) (sup : Nat := 0) (ifs : Array Nat := #[]) (fds : Array FieldInfo := #[]) : ClassFile where
  minorVersion := 0
  majorVersion := 65
  constantPool := pool
  accessFlags := fl
  thisClass := this
  superClass := sup
  interfaces := ifs
  fields := fds
  methods := ms
  attributes := attrs
def plain (name : String) (sup : Option ClassId) : Class where
  name := name
  kind := .ordinary
  loader := none
  accessFlags := 33
  super := sup
  interfaces := #[]
  cf := none
  fields := #[]
  methods := #[]
  instanceTypes := #[]
  staticTypes := #[]
  resolved := #[]
  callSites := []
  init := .initialized
  statics := none
  mirror := none

def pool0 : Array CpInfo := pool [(5, u "<init>"), (0, u "()V"), (1, .class_ 10), (1, u "java/lang/Object")] 113

def k0c0 : Code := { maxStack := 0, maxLocals := 1, code := object_method_1_code, exceptionTable := #[], attributes := #[] }
def k0m0 : Method := { name := "<init>", desc := "()V", sig := { parameters := [], returnType := none }, accessFlags := 1, code := some k0c0 }
/-- java/lang/Object -/
def k0 : Class := { plain "java/lang/Object" none with
  accessFlags := 33
  interfaces := #[]
  cf := some (fileOf pool0 8 #[] #[{ accessFlags := 1, nameIndex := 5, descriptorIndex := 6, attributes := #[] }] 33 0 #[] #[])
  fields := #[]
  methods := #[k0m0]
  instanceTypes := #[]
  staticTypes := #[]
  resolved := Array.replicate 124 none
  statics := none }

def pool1 : Array CpInfo := pool [(2, .class_ 4), (0, .nameAndType 5 6), (0, u "java/lang/Object"), (0, u "<init>"), (0, u "()V"), (0, .class_ 8), (0, u "com/example/seqlint/seqlint/kafka/Batch"), (0, .methodref 7 3), (0, .fieldref 11 12), (0, .class_ 13), (0, .nameAndType 14 15), (0, u "com/example/seqlint/seqlint/kafka/Batch$Marker"), (0, u "COMMIT"), (0, u "Lcom/example/seqlint/seqlint/kafka/Batch$Marker;"), (0, .methodref 7 17), (0, .nameAndType 18 19), (0, u "setRecordsRead"), (0, u "(JLcom/example/seqlint/seqlint/kafka/Batch$Marker;)V"), (0, .methodref 7 21), (0, .nameAndType 22 23), (0, u "set"), (0, u "(JJIJSIJJJSII)V"), (0, .long 18446744073709551615), (1, .methodref 7 27), (0, .nameAndType 28 29), (0, u "position"), (0, u "()J"), (0, .methodref 7 31), (0, .nameAndType 32 29), (0, u "baseOffset"), (0, .methodref 7 34), (0, .nameAndType 35 36), (0, u "leaderEpoch"), (0, u "()I"), (0, .methodref 7 38), (0, .nameAndType 39 29), (0, u "storedCrc"), (0, .methodref 7 41), (0, .nameAndType 42 29), (0, u "computedCrc"), (0, .methodref 7 44), (0, .nameAndType 45 46), (0, u "marker"), (0, u "()Lcom/example/seqlint/seqlint/kafka/Batch$Marker;"), (0, .methodref 7 48), (0, .nameAndType 49 29), (0, u "producerId"), (0, .methodref 7 51), (0, .nameAndType 52 53), (0, u "producerEpoch"), (0, u "()S"), (0, .methodref 7 55), (0, .nameAndType 56 36), (0, u "baseSequence"), (0, .methodref 7 58), (0, .nameAndType 59 36), (0, u "recordCount"), (0, .methodref 7 61), (0, .nameAndType 62 29), (0, u "lastOffset"), (0, .methodref 7 64), (0, .nameAndType 62 65), (0, u "(JI)J"), (0, .methodref 7 67), (0, .nameAndType 68 69), (0, u "isMarker"), (0, u "()Z"), (0, .methodref 7 71), (0, .nameAndType 72 69), (0, u "isTransactional"), (0, .methodref 7 74), (0, .nameAndType 75 29), (0, u "firstTimestamp"), (0, .methodref 7 77), (0, .nameAndType 78 29), (0, u "lastTimestamp"), (0, .class_ 80), (0, u "com/example/seqlint/seqlint/kafka/BatchSetPinLaw"), (2, u "law"), (0, u "(JJJIII)Z")] 5

def k1m0 : Method := { name := "<init>", desc := "()V", sig := { parameters := [], returnType := none }, accessFlags := 1, code := none }
def k1c1 : Code := { maxStack := 19, maxLocals := 28, code := code, exceptionTable := #[], attributes := #[] }
def k1m1 : Method := { name := "law", desc := "(JJJIII)Z", sig := { parameters := [.long, .long, .long, .int, .int, .int], returnType := some .boolean }, accessFlags := 9, code := some k1c1 }
/-- com/example/seqlint/seqlint/kafka/BatchSetPinLaw -/
def k1 : Class := { plain "com/example/seqlint/seqlint/kafka/BatchSetPinLaw" (some 0) with
  accessFlags := 49
  interfaces := #[]
  cf := some (fileOf pool1 79 #[] #[{ accessFlags := 1, nameIndex := 5, descriptorIndex := 6, attributes := #[] }, { accessFlags := 9, nameIndex := 83, descriptorIndex := 84, attributes := #[] }] 49 2 #[] #[])
  fields := #[]
  methods := #[k1m0, k1m1]
  instanceTypes := #[]
  staticTypes := #[]
  resolved := Array.replicate 90 none
  statics := none }

def pool2 : Array CpInfo := pool [(1, .methodref 2 3), (0, .class_ 4), (0, .nameAndType 5 6), (0, u "java/lang/Object"), (0, u "<init>"), (0, u "()V"), (0, .fieldref 8 9), (0, .class_ 10), (0, .nameAndType 11 12), (0, u "com/example/seqlint/seqlint/kafka/Batch"), (0, u "position"), (0, u "J"), (0, .fieldref 8 14), (0, .nameAndType 15 12), (0, u "baseOffset"), (0, .fieldref 8 17), (0, .nameAndType 18 19), (0, u "leaderEpoch"), (0, u "I"), (0, .fieldref 8 21), (0, .nameAndType 22 12), (0, u "storedCrc"), (0, .long 18446744073709551615), (1, .fieldref 8 26), (0, .nameAndType 27 12), (0, u "computedCrc"), (0, .fieldref 8 29), (0, .nameAndType 30 31), (0, u "attributes"), (0, u "S"), (0, .fieldref 8 33), (0, .nameAndType 34 19), (0, u "lastOffsetDelta"), (0, .fieldref 8 36), (0, .nameAndType 37 12), (0, u "firstTimestamp"), (0, .fieldref 8 39), (0, .nameAndType 40 12), (0, u "maxTimestamp"), (0, .fieldref 8 42), (0, .nameAndType 43 12), (0, u "producerId"), (0, .fieldref 8 45), (0, .nameAndType 46 31), (0, u "producerEpoch"), (0, .fieldref 8 48), (0, .nameAndType 49 19), (0, u "baseSequence"), (0, .fieldref 8 51), (0, .nameAndType 52 19), (0, u "recordCount"), (0, .fieldref 8 54), (0, .nameAndType 55 56), (0, u "marker"), (0, u "Lcom/example/seqlint/seqlint/kafka/Batch$Marker;"), (0, .methodref 8 58), (0, .nameAndType 59 60), (0, u "lastOffset"), (0, u "(JI)J"), (2, .long 9223372036854775808), (1, .long 9223372036854775807), (3, u "()J"), (16, .methodref 8 87), (0, .nameAndType 88 89), (0, u "isIntact"), (0, u "()Z"), (10, u "SEQUENCE_SPACE"), (1, u "NO_TIMESTAMP"), (0, u "NO_OFFSET"), (0, u "NO_LEADER_EPOCH"), (1, u "TRANSACTIONAL_FLAG"), (1, u "CONTROL_FLAG"), (1, u "NO_PRODUCER_ID"), (0, u "NO_SEQUENCE"), (0, u "NOT_COMPUTED"), (2, u "set"), (0, u "(JJIJSIJJJSII)V"), (0, u "setRecordsRead"), (0, u "(JLcom/example/seqlint/seqlint/kafka/Batch$Marker;)V"), (0, u "()I"), (0, u "()S"), (0, u "()Lcom/example/seqlint/seqlint/kafka/Batch$Marker;"), (2, u "isTransactional"), (0, u "isMarker"), (2, u "lastTimestamp"), (6, .class_ 136), (0, u "com/example/seqlint/seqlint/kafka/Batch$Marker")] 2

def k2c0 : Code := { maxStack := 1, maxLocals := 1, code := prog_49_method_1_code, exceptionTable := #[], attributes := #[] }
def k2m0 : Method := { name := "<init>", desc := "()V", sig := { parameters := [], returnType := none }, accessFlags := 0, code := some k2c0 }
def k2c1 : Code := { maxStack := 3, maxLocals := 19, code := prog_49_method_2_code, exceptionTable := #[], attributes := #[] }
def k2m1 : Method := { name := "set", desc := "(JJIJSIJJJSII)V", sig := { parameters := [.long, .long, .int, .long, .short, .int, .long, .long, .long, .short, .int, .int], returnType := none }, accessFlags := 0, code := some k2c1 }
def k2c2 : Code := { maxStack := 3, maxLocals := 4, code := prog_49_method_3_code, exceptionTable := #[], attributes := #[] }
def k2m2 : Method := { name := "setRecordsRead", desc := "(JLcom/example/seqlint/seqlint/kafka/Batch$Marker;)V", sig := { parameters := [.long, (.object "com/example/seqlint/seqlint/kafka/Batch$Marker")], returnType := none }, accessFlags := 0, code := some k2c2 }
def k2c3 : Code := { maxStack := 2, maxLocals := 1, code := prog_49_method_4_code, exceptionTable := #[], attributes := #[] }
def k2m3 : Method := { name := "position", desc := "()J", sig := { parameters := [], returnType := some .long }, accessFlags := 0, code := some k2c3 }
def k2c4 : Code := { maxStack := 2, maxLocals := 1, code := prog_49_method_5_code, exceptionTable := #[], attributes := #[] }
def k2m4 : Method := { name := "baseOffset", desc := "()J", sig := { parameters := [], returnType := some .long }, accessFlags := 0, code := some k2c4 }
def k2c5 : Code := { maxStack := 1, maxLocals := 1, code := prog_49_method_6_code, exceptionTable := #[], attributes := #[] }
def k2m5 : Method := { name := "leaderEpoch", desc := "()I", sig := { parameters := [], returnType := some .int }, accessFlags := 0, code := some k2c5 }
def k2c6 : Code := { maxStack := 2, maxLocals := 1, code := prog_49_method_7_code, exceptionTable := #[], attributes := #[] }
def k2m6 : Method := { name := "storedCrc", desc := "()J", sig := { parameters := [], returnType := some .long }, accessFlags := 0, code := some k2c6 }
def k2c7 : Code := { maxStack := 2, maxLocals := 1, code := prog_49_method_8_code, exceptionTable := #[], attributes := #[] }
def k2m7 : Method := { name := "computedCrc", desc := "()J", sig := { parameters := [], returnType := some .long }, accessFlags := 0, code := some k2c7 }
def k2c8 : Code := { maxStack := 2, maxLocals := 1, code := prog_49_method_9_code, exceptionTable := #[], attributes := #[] }
def k2m8 : Method := { name := "producerId", desc := "()J", sig := { parameters := [], returnType := some .long }, accessFlags := 0, code := some k2c8 }
def k2c9 : Code := { maxStack := 1, maxLocals := 1, code := prog_49_method_10_code, exceptionTable := #[], attributes := #[] }
def k2m9 : Method := { name := "producerEpoch", desc := "()S", sig := { parameters := [], returnType := some .short }, accessFlags := 0, code := some k2c9 }
def k2c10 : Code := { maxStack := 1, maxLocals := 1, code := prog_49_method_11_code, exceptionTable := #[], attributes := #[] }
def k2m10 : Method := { name := "baseSequence", desc := "()I", sig := { parameters := [], returnType := some .int }, accessFlags := 0, code := some k2c10 }
def k2c11 : Code := { maxStack := 1, maxLocals := 1, code := prog_49_method_12_code, exceptionTable := #[], attributes := #[] }
def k2m11 : Method := { name := "recordCount", desc := "()I", sig := { parameters := [], returnType := some .int }, accessFlags := 0, code := some k2c11 }
def k2c12 : Code := { maxStack := 1, maxLocals := 1, code := prog_49_method_13_code, exceptionTable := #[], attributes := #[] }
def k2m12 : Method := { name := "marker", desc := "()Lcom/example/seqlint/seqlint/kafka/Batch$Marker;", sig := { parameters := [], returnType := some (.object "com/example/seqlint/seqlint/kafka/Batch$Marker") }, accessFlags := 0, code := some k2c12 }
def k2c13 : Code := { maxStack := 4, maxLocals := 1, code := prog_49_method_15_code, exceptionTable := #[], attributes := #[] }
def k2m13 : Method := { name := "isTransactional", desc := "()Z", sig := { parameters := [], returnType := some .boolean }, accessFlags := 0, code := some k2c13 }
def k2c14 : Code := { maxStack := 4, maxLocals := 1, code := prog_49_method_16_code, exceptionTable := #[], attributes := #[] }
def k2m14 : Method := { name := "isMarker", desc := "()Z", sig := { parameters := [], returnType := some .boolean }, accessFlags := 0, code := some k2c14 }
def k2c15 : Code := { maxStack := 3, maxLocals := 1, code := prog_49_method_17_code, exceptionTable := #[], attributes := #[] }
def k2m15 : Method := { name := "lastOffset", desc := "()J", sig := { parameters := [], returnType := some .long }, accessFlags := 0, code := some k2c15 }
def k2c16 : Code := { maxStack := 6, maxLocals := 5, code := prog_49_method_18_code, exceptionTable := #[], attributes := #[] }
def k2m16 : Method := { name := "lastOffset", desc := "(JI)J", sig := { parameters := [.long, .int], returnType := some .long }, accessFlags := 8, code := some k2c16 }
def k2c17 : Code := { maxStack := 4, maxLocals := 1, code := prog_49_method_23_code, exceptionTable := #[], attributes := #[] }
def k2m17 : Method := { name := "isIntact", desc := "()Z", sig := { parameters := [], returnType := some .boolean }, accessFlags := 0, code := some k2c17 }
def k2c18 : Code := { maxStack := 4, maxLocals := 1, code := prog_49_method_25_code, exceptionTable := #[], attributes := #[] }
def k2m18 : Method := { name := "lastTimestamp", desc := "()J", sig := { parameters := [], returnType := some .long }, accessFlags := 0, code := some k2c18 }
def k2c19 : Code := { maxStack := 4, maxLocals := 1, code := prog_49_method_26_code, exceptionTable := #[], attributes := #[] }
def k2m19 : Method := { name := "firstTimestamp", desc := "()J", sig := { parameters := [], returnType := some .long }, accessFlags := 0, code := some k2c19 }
/-- com/example/seqlint/seqlint/kafka/Batch -/
def k2 : Class := { plain "com/example/seqlint/seqlint/kafka/Batch" (some 0) with
  accessFlags := 32
  interfaces := #[]
  cf := some (fileOf pool2 8 #[.nestMembers #[135]] #[{ accessFlags := 0, nameIndex := 5, descriptorIndex := 6, attributes := #[] }, { accessFlags := 0, nameIndex := 115, descriptorIndex := 116, attributes := #[] }, { accessFlags := 0, nameIndex := 117, descriptorIndex := 118, attributes := #[] }, { accessFlags := 0, nameIndex := 11, descriptorIndex := 69, attributes := #[] }, { accessFlags := 0, nameIndex := 15, descriptorIndex := 69, attributes := #[] }, { accessFlags := 0, nameIndex := 18, descriptorIndex := 119, attributes := #[] }, { accessFlags := 0, nameIndex := 22, descriptorIndex := 69, attributes := #[] }, { accessFlags := 0, nameIndex := 27, descriptorIndex := 69, attributes := #[] }, { accessFlags := 0, nameIndex := 43, descriptorIndex := 69, attributes := #[] }, { accessFlags := 0, nameIndex := 46, descriptorIndex := 120, attributes := #[] }, { accessFlags := 0, nameIndex := 49, descriptorIndex := 119, attributes := #[] }, { accessFlags := 0, nameIndex := 52, descriptorIndex := 119, attributes := #[] }, { accessFlags := 0, nameIndex := 55, descriptorIndex := 121, attributes := #[] }, { accessFlags := 0, nameIndex := 124, descriptorIndex := 89, attributes := #[] }, { accessFlags := 0, nameIndex := 125, descriptorIndex := 89, attributes := #[] }, { accessFlags := 0, nameIndex := 59, descriptorIndex := 69, attributes := #[] }, { accessFlags := 8, nameIndex := 59, descriptorIndex := 60, attributes := #[] }, { accessFlags := 0, nameIndex := 88, descriptorIndex := 89, attributes := #[] }, { accessFlags := 0, nameIndex := 128, descriptorIndex := 69, attributes := #[] }, { accessFlags := 0, nameIndex := 37, descriptorIndex := 69, attributes := #[] }] 32 2 #[] #[{ accessFlags := 24, nameIndex := 100, descriptorIndex := 12, attributes := #[] }, { accessFlags := 24, nameIndex := 102, descriptorIndex := 12, attributes := #[] }, { accessFlags := 24, nameIndex := 103, descriptorIndex := 12, attributes := #[] }, { accessFlags := 24, nameIndex := 104, descriptorIndex := 19, attributes := #[] }, { accessFlags := 26, nameIndex := 106, descriptorIndex := 19, attributes := #[] }, { accessFlags := 24, nameIndex := 108, descriptorIndex := 19, attributes := #[] }, { accessFlags := 26, nameIndex := 110, descriptorIndex := 12, attributes := #[] }, { accessFlags := 26, nameIndex := 111, descriptorIndex := 19, attributes := #[] }, { accessFlags := 26, nameIndex := 112, descriptorIndex := 12, attributes := #[] }, { accessFlags := 2, nameIndex := 11, descriptorIndex := 12, attributes := #[] }, { accessFlags := 2, nameIndex := 15, descriptorIndex := 12, attributes := #[] }, { accessFlags := 2, nameIndex := 18, descriptorIndex := 19, attributes := #[] }, { accessFlags := 2, nameIndex := 22, descriptorIndex := 12, attributes := #[] }, { accessFlags := 2, nameIndex := 27, descriptorIndex := 12, attributes := #[] }, { accessFlags := 2, nameIndex := 30, descriptorIndex := 31, attributes := #[] }, { accessFlags := 2, nameIndex := 34, descriptorIndex := 19, attributes := #[] }, { accessFlags := 2, nameIndex := 37, descriptorIndex := 12, attributes := #[] }, { accessFlags := 2, nameIndex := 40, descriptorIndex := 12, attributes := #[] }, { accessFlags := 2, nameIndex := 43, descriptorIndex := 12, attributes := #[] }, { accessFlags := 2, nameIndex := 46, descriptorIndex := 31, attributes := #[] }, { accessFlags := 2, nameIndex := 49, descriptorIndex := 19, attributes := #[] }, { accessFlags := 2, nameIndex := 52, descriptorIndex := 19, attributes := #[] }, { accessFlags := 2, nameIndex := 55, descriptorIndex := 56, attributes := #[] }])
  fields := #[{ name := "SEQUENCE_SPACE", type := .long, accessFlags := 24, slot := 0, constantValue := 0 }, { name := "NO_TIMESTAMP", type := .long, accessFlags := 24, slot := 1, constantValue := 0 }, { name := "NO_OFFSET", type := .long, accessFlags := 24, slot := 2, constantValue := 0 }, { name := "NO_LEADER_EPOCH", type := .int, accessFlags := 24, slot := 3, constantValue := 0 }, { name := "TRANSACTIONAL_FLAG", type := .int, accessFlags := 26, slot := 4, constantValue := 0 }, { name := "CONTROL_FLAG", type := .int, accessFlags := 24, slot := 5, constantValue := 0 }, { name := "NO_PRODUCER_ID", type := .long, accessFlags := 26, slot := 6, constantValue := 0 }, { name := "NO_SEQUENCE", type := .int, accessFlags := 26, slot := 7, constantValue := 0 }, { name := "NOT_COMPUTED", type := .long, accessFlags := 26, slot := 8, constantValue := 0 }, { name := "position", type := .long, accessFlags := 2, slot := 0, constantValue := 0 }, { name := "baseOffset", type := .long, accessFlags := 2, slot := 1, constantValue := 0 }, { name := "leaderEpoch", type := .int, accessFlags := 2, slot := 2, constantValue := 0 }, { name := "storedCrc", type := .long, accessFlags := 2, slot := 3, constantValue := 0 }, { name := "computedCrc", type := .long, accessFlags := 2, slot := 4, constantValue := 0 }, { name := "attributes", type := .short, accessFlags := 2, slot := 5, constantValue := 0 }, { name := "lastOffsetDelta", type := .int, accessFlags := 2, slot := 6, constantValue := 0 }, { name := "firstTimestamp", type := .long, accessFlags := 2, slot := 7, constantValue := 0 }, { name := "maxTimestamp", type := .long, accessFlags := 2, slot := 8, constantValue := 0 }, { name := "producerId", type := .long, accessFlags := 2, slot := 9, constantValue := 0 }, { name := "producerEpoch", type := .short, accessFlags := 2, slot := 10, constantValue := 0 }, { name := "baseSequence", type := .int, accessFlags := 2, slot := 11, constantValue := 0 }, { name := "recordCount", type := .int, accessFlags := 2, slot := 12, constantValue := 0 }, { name := "marker", type := (.object "com/example/seqlint/seqlint/kafka/Batch$Marker"), accessFlags := 2, slot := 13, constantValue := 0 }]
  methods := #[k2m0, k2m1, k2m2, k2m3, k2m4, k2m5, k2m6, k2m7, k2m8, k2m9, k2m10, k2m11, k2m12, k2m13, k2m14, k2m15, k2m16, k2m17, k2m18, k2m19]
  instanceTypes := #[.long, .long, .int, .long, .long, .short, .int, .long, .long, .long, .short, .int, .int, (.object "com/example/seqlint/seqlint/kafka/Batch$Marker")]
  staticTypes := #[.long, .long, .long, .int, .int, .int, .long, .int, .long]
  resolved := Array.replicate 139 none
  statics := none }

def pool3 : Array CpInfo := pool [(1, .class_ 2), (0, u "java/lang/constant/Constable"), (0, .class_ 4), (0, u "java/lang/Object")] 6

/-- java/lang/constant/Constable -/
def k3 : Class := { plain "java/lang/constant/Constable" (some 0) with
  accessFlags := 1537
  interfaces := #[]
  cf := some (fileOf pool3 1 #[] #[] 1537 3 #[] #[])
  fields := #[]
  methods := #[]
  instanceTypes := #[]
  staticTypes := #[]
  resolved := Array.replicate 11 none
  statics := none }

def pool4 : Array CpInfo := pool [(1, .class_ 2), (0, u "java/lang/Comparable"), (0, .class_ 4), (0, u "java/lang/Object")] 7

/-- java/lang/Comparable -/
def k4 : Class := { plain "java/lang/Comparable" (some 0) with
  accessFlags := 1537
  interfaces := #[]
  cf := some (fileOf pool4 1 #[] #[] 1537 3 #[] #[])
  fields := #[]
  methods := #[]
  instanceTypes := #[]
  staticTypes := #[]
  resolved := Array.replicate 12 none
  statics := none }

def pool5 : Array CpInfo := pool [(1, .class_ 2), (0, u "java/io/Serializable"), (0, .class_ 4), (0, u "java/lang/Object")] 2

/-- java/io/Serializable -/
def k5 : Class := { plain "java/io/Serializable" (some 0) with
  accessFlags := 1537
  interfaces := #[]
  cf := some (fileOf pool5 1 #[] #[] 1537 3 #[] #[])
  fields := #[]
  methods := #[]
  instanceTypes := #[]
  staticTypes := #[]
  resolved := Array.replicate 7 none
  statics := none }

def pool6 : Array CpInfo := pool [(2, .class_ 4), (1, u "java/lang/Enum"), (0, u "name"), (0, u "Ljava/lang/String;"), (2, u "ordinal"), (0, u "I"), (1, .class_ 14), (1, u "java/lang/Object"), (4, u "hash"), (86, .class_ 108), (1, u "java/lang/Enum$EnumDesc"), (2, .class_ 112), (0, u "java/lang/constant/Constable"), (0, .class_ 114), (0, u "java/lang/Comparable"), (0, .class_ 116), (0, u "java/io/Serializable")] 87

/-- java/lang/Enum -/
def k6 : Class := { plain "java/lang/Enum" (some 0) with
  accessFlags := 1057
  interfaces := #[3, 4, 5]
  cf := some (fileOf pool6 2 #[.nestMembers #[106]] #[] 1057 12 #[111, 113, 115] #[{ accessFlags := 18, nameIndex := 5, descriptorIndex := 6, attributes := #[] }, { accessFlags := 18, nameIndex := 9, descriptorIndex := 10, attributes := #[] }, { accessFlags := 2, nameIndex := 19, descriptorIndex := 10, attributes := #[] }])
  fields := #[{ name := "name", type := (.object "java/lang/String"), accessFlags := 18, slot := 0, constantValue := 0 }, { name := "ordinal", type := .int, accessFlags := 18, slot := 1, constantValue := 0 }, { name := "hash", type := .int, accessFlags := 2, slot := 2, constantValue := 0 }]
  methods := #[]
  instanceTypes := #[(.object "java/lang/String"), .int, .int]
  staticTypes := #[]
  resolved := Array.replicate 204 none
  statics := none }

def pool7 : Array CpInfo := pool [(1, .class_ 2), (0, u "com/example/seqlint/seqlint/kafka/Batch$Marker"), (2, u "ABORT"), (0, u "Lcom/example/seqlint/seqlint/kafka/Batch$Marker;"), (2, u "COMMIT"), (2, u "$VALUES"), (0, u "[Lcom/example/seqlint/seqlint/kafka/Batch$Marker;"), (6, .class_ 22), (1, u "java/lang/Enum"), (45, .class_ 69), (0, u "com/example/seqlint/seqlint/kafka/Batch")] 2

/-- com/example/seqlint/seqlint/kafka/Batch$Marker -/
def k7 : Class := { plain "com/example/seqlint/seqlint/kafka/Batch$Marker" (some 6) with
  accessFlags := 16432
  interfaces := #[]
  cf := some (fileOf pool7 1 #[.nestHost 68] #[] 16432 20 #[] #[{ accessFlags := 16409, nameIndex := 5, descriptorIndex := 6, attributes := #[] }, { accessFlags := 16409, nameIndex := 9, descriptorIndex := 6, attributes := #[] }, { accessFlags := 4122, nameIndex := 12, descriptorIndex := 13, attributes := #[] }])
  fields := #[{ name := "ABORT", type := (.object "com/example/seqlint/seqlint/kafka/Batch$Marker"), accessFlags := 16409, slot := 0, constantValue := 0 }, { name := "COMMIT", type := (.object "com/example/seqlint/seqlint/kafka/Batch$Marker"), accessFlags := 16409, slot := 1, constantValue := 0 }, { name := "$VALUES", type := (.array (.object "com/example/seqlint/seqlint/kafka/Batch$Marker")), accessFlags := 4122, slot := 2, constantValue := 0 }]
  methods := #[]
  instanceTypes := #[(.object "java/lang/String"), .int, .int]
  staticTypes := #[(.object "com/example/seqlint/seqlint/kafka/Batch$Marker"), (.object "com/example/seqlint/seqlint/kafka/Batch$Marker"), (.array (.object "com/example/seqlint/seqlint/kafka/Batch$Marker"))]
  resolved := Array.replicate 72 none
  statics := some 0 }

def pool8 : Array CpInfo := pool [(1, u "java/lang/Cloneable"), (0, .class_ 1), (0, u "java/lang/Object"), (0, .class_ 3)] 3

/-- java/lang/Cloneable -/
def k8 : Class := { plain "java/lang/Cloneable" (some 0) with
  accessFlags := 1537
  interfaces := #[]
  cf := some (fileOf pool8 2 #[] #[] 1537 4 #[] #[])
  fields := #[]
  methods := #[]
  instanceTypes := #[]
  staticTypes := #[]
  resolved := Array.replicate 8 none
  statics := none }

/-- the primitive byte -/
def k9 : Class := { plain "byte" none with kind := .primitive 'B', accessFlags := 0x411 }
/-- [B -/
def k10 : Class := { plain "[B" (some 0) with kind := .array 9 .byte, interfaces := #[8, 5], accessFlags := 1041 }

/-- the primitive int -/
def k11 : Class := { plain "int" none with kind := .primitive 'I', accessFlags := 0x411 }
/-- [I -/
def k12 : Class := { plain "[I" (some 0) with kind := .array 11 .int, interfaces := #[8, 5], accessFlags := 1041 }

def heap : Heap := #[{ cls := 7, slots := #[.null, .ref 1, .null], vm := .statics 7 },
  { cls := 7, slots := #[.null, .int 0, .int 0], vm := .none }]
def classes : Array Class := #[k0, k1, k2, k3, k4, k5, k6, k7, k8, k9, k10, k11, k12]
def interned : List (Array UInt16 × Addr) := []
def slotsUsed : Nat := 6
def theMethod : MethodId := ⟨1, 1⟩
def args0 : Array Value := #[.long 5, .long 3, .long 7, .int 1, .int 2, .int 3]
def aboutOver (below : List Frame) : State where
  vm := { classes := classes, interned := interned.toArray }
  heap := heap
  slotsUsed := slotsUsed
  threads := #[{ frames := .invoking theMethod args0 :: below }]
def below0 : List Frame := [.native { method := ⟨0, 0⟩, args := #[] }]
def about1 : State := aboutOver below0
def p0 : Program := .bare "" "" ""
def e0 : Env := launch0.env 0 0 0
theorem w_frames : about1.frames = Frame.invoking theMethod args0 :: below0 := rfl
set_option maxRecDepth 65536 in
theorem w_args : argsFit about1.vm theMethod args0 = true := by decide +kernel
set_option maxRecDepth 65536 in
theorem w_heap : heapFits about1 = true := by decide +kernel
set_option maxRecDepth 65536 in
theorem w_runnable : about1.curStatus? = some .runnable := by decide +kernel
set_option maxRecDepth 65536 in
theorem w_alone : about1.alone = true := by decide +kernel
set_option maxRecDepth 65536 in
theorem w_named : about1.methodNamed? x = some theMethod := by decide +kernel
set_option maxRecDepth 65536 in
theorem w_hears : about1.hears theMethod below0 = true := by decide +kernel
set_option maxRecDepth 65536 in
theorem w_ripe : about1.ripe theMethod args0 below0 = true := by decide +kernel
theorem w_running : about1.status = .running := rfl
set_option maxRecDepth 65536 in
theorem w_room : about1.hasRoom e0.platform room_1 = true :=
  launch0.hasRoom_least _ room_1 (by decide +kernel) (by decide +kernel) (by decide +kernel) (by decide +kernel) (by decide +kernel) (by decide +kernel)
theorem allAtoms_all (ts : List Jvm.Cond) (a : Array Jvm.Value) (st : Jvm.State) : (allAtoms ts).before a st = ts.all (fun c => c.before a st) := by
  induction ts with
  | nil => rfl
  | cons c t ih =>
    show (Jvm.Cond.and c (allAtoms t)).before a st = _
    rw [Jvm.Cond.before_and, ih, List.all_cons]
def words1 : List Jvm.Cond := Jvm.Cond.code x code maxLocals ret :: tables_1
/-- a 'code' word, met by the world's own term for the bytes: nothing is compared byte by byte -/
theorem code_word {y : MethodName} {bytes : ByteArray} {mx : Nat} {rt : Option FieldType} {a : Array Value} {s : State} {m : MethodId} {meth : Method} {c : Code} (h1 : s.methodNamed? y = some m) (h2 : s.vm.method? m = some meth) (h3 : meth.code = some c) (h4 : c.code = bytes)
    (h5 : (c.maxLocals == mx && c.exceptionTable.isEmpty && decide (c.maxStack ≤ mostOperands) && decide (meth.sig.returnType = rt) && !meth.locks && decide (parseMethodDescriptor y.desc = some meth.sig)) = true) : (Jvm.Cond.code y bytes mx rt).before a s = true := by
  simp only [Bool.and_eq_true, beq_iff_eq, Bool.not_eq_true', decide_eq_true_eq] at h5
  obtain ⟨⟨⟨⟨⟨g1, g2⟩, g3⟩, g4⟩, g5⟩, g6⟩ := h5
  simp [Cond.before, Cond.holds, Cond.value, h1, h2, h3, h4, g1, g2, g3, g4, g5, g6]
def isCode : Jvm.Cond → Bool
  | .code _ _ _ _ => true
  | _ => false
theorem all_split {L : List Jvm.Cond} {P : Jvm.Cond → Bool} (h1 : L.all (fun c => isCode c || P c) = true) (h2 : ∀ c ∈ L.filter isCode, P c = true) : L.all P = true := by
  refine List.all_eq_true.mpr fun c hc => ?_
  have h := List.all_eq_true.mp h1 c hc
  rcases Bool.eq_false_or_eq_true (isCode c) with hi | hi
  · exact h2 c (List.mem_filter.mpr ⟨hc, hi⟩)
  · simpa [hi] using h
set_option maxRecDepth 65536 in
theorem w_c0 : (Jvm.Cond.code x code maxLocals ret).before args0 about1 = true := code_word (m := ⟨1, 1⟩) (meth := k1m1) (c := k1c1) (by decide +kernel) rfl rfl rfl (by decide +kernel)
set_option maxRecDepth 65536 in
theorem w_c1 : (Jvm.Cond.code ({ cls := "com/example/seqlint/seqlint/kafka/Batch", name := "<init>", desc := "()V" } : Jvm.MethodName) prog_49_method_1_code (1 : Nat) (Option.none : Option Jvm.ClassFile.FieldType)).before args0 about1 = true := code_word (m := ⟨2, 0⟩) (meth := k2m0) (c := k2c0) (by decide +kernel) rfl rfl rfl (by decide +kernel)
set_option maxRecDepth 65536 in
theorem w_c2 : (Jvm.Cond.code ({ cls := "java/lang/Object", name := "<init>", desc := "()V" } : Jvm.MethodName) object_method_1_code (1 : Nat) (Option.none : Option Jvm.ClassFile.FieldType)).before args0 about1 = true := code_word (m := ⟨0, 0⟩) (meth := k0m0) (c := k0c0) (by decide +kernel) rfl rfl rfl (by decide +kernel)
set_option maxRecDepth 65536 in
theorem w_c3 : (Jvm.Cond.code ({ cls := "com/example/seqlint/seqlint/kafka/Batch", name := "setRecordsRead", desc := "(JLcom/example/seqlint/seqlint/kafka/Batch$Marker;)V" } : Jvm.MethodName) prog_49_method_3_code (4 : Nat) (Option.none : Option Jvm.ClassFile.FieldType)).before args0 about1 = true := code_word (m := ⟨2, 2⟩) (meth := k2m2) (c := k2c2) (by decide +kernel) rfl rfl rfl (by decide +kernel)
set_option maxRecDepth 65536 in
theorem w_c4 : (Jvm.Cond.code ({ cls := "com/example/seqlint/seqlint/kafka/Batch", name := "set", desc := "(JJIJSIJJJSII)V" } : Jvm.MethodName) prog_49_method_2_code (19 : Nat) (Option.none : Option Jvm.ClassFile.FieldType)).before args0 about1 = true := code_word (m := ⟨2, 1⟩) (meth := k2m1) (c := k2c1) (by decide +kernel) rfl rfl rfl (by decide +kernel)
set_option maxRecDepth 65536 in
theorem w_c5 : (Jvm.Cond.code ({ cls := "com/example/seqlint/seqlint/kafka/Batch", name := "position", desc := "()J" } : Jvm.MethodName) prog_49_method_4_code (1 : Nat) (Option.some Jvm.ClassFile.FieldType.long)).before args0 about1 = true := code_word (m := ⟨2, 3⟩) (meth := k2m3) (c := k2c3) (by decide +kernel) rfl rfl rfl (by decide +kernel)
set_option maxRecDepth 65536 in
theorem w_c6 : (Jvm.Cond.code ({ cls := "com/example/seqlint/seqlint/kafka/Batch", name := "baseOffset", desc := "()J" } : Jvm.MethodName) prog_49_method_5_code (1 : Nat) (Option.some Jvm.ClassFile.FieldType.long)).before args0 about1 = true := code_word (m := ⟨2, 4⟩) (meth := k2m4) (c := k2c4) (by decide +kernel) rfl rfl rfl (by decide +kernel)
set_option maxRecDepth 65536 in
theorem w_c7 : (Jvm.Cond.code ({ cls := "com/example/seqlint/seqlint/kafka/Batch", name := "leaderEpoch", desc := "()I" } : Jvm.MethodName) prog_49_method_6_code (1 : Nat) (Option.some Jvm.ClassFile.FieldType.int)).before args0 about1 = true := code_word (m := ⟨2, 5⟩) (meth := k2m5) (c := k2c5) (by decide +kernel) rfl rfl rfl (by decide +kernel)
set_option maxRecDepth 65536 in
theorem w_c8 : (Jvm.Cond.code ({ cls := "com/example/seqlint/seqlint/kafka/Batch", name := "storedCrc", desc := "()J" } : Jvm.MethodName) prog_49_method_7_code (1 : Nat) (Option.some Jvm.ClassFile.FieldType.long)).before args0 about1 = true := code_word (m := ⟨2, 6⟩) (meth := k2m6) (c := k2c6) (by decide +kernel) rfl rfl rfl (by decide +kernel)
set_option maxRecDepth 65536 in
theorem w_c9 : (Jvm.Cond.code ({ cls := "com/example/seqlint/seqlint/kafka/Batch", name := "computedCrc", desc := "()J" } : Jvm.MethodName) prog_49_method_8_code (1 : Nat) (Option.some Jvm.ClassFile.FieldType.long)).before args0 about1 = true := code_word (m := ⟨2, 7⟩) (meth := k2m7) (c := k2c7) (by decide +kernel) rfl rfl rfl (by decide +kernel)
set_option maxRecDepth 65536 in
theorem w_c10 : (Jvm.Cond.code ({ cls := "com/example/seqlint/seqlint/kafka/Batch", name := "marker", desc := "()Lcom/example/seqlint/seqlint/kafka/Batch$Marker;" } : Jvm.MethodName) prog_49_method_13_code (1 : Nat) (Option.some (Jvm.ClassFile.FieldType.object "com/example/seqlint/seqlint/kafka/Batch$Marker"))).before args0 about1 = true := code_word (m := ⟨2, 12⟩) (meth := k2m12) (c := k2c12) (by decide +kernel) rfl rfl rfl (by decide +kernel)
set_option maxRecDepth 65536 in
theorem w_c11 : (Jvm.Cond.code ({ cls := "com/example/seqlint/seqlint/kafka/Batch", name := "producerId", desc := "()J" } : Jvm.MethodName) prog_49_method_9_code (1 : Nat) (Option.some Jvm.ClassFile.FieldType.long)).before args0 about1 = true := code_word (m := ⟨2, 8⟩) (meth := k2m8) (c := k2c8) (by decide +kernel) rfl rfl rfl (by decide +kernel)
set_option maxRecDepth 65536 in
theorem w_c12 : (Jvm.Cond.code ({ cls := "com/example/seqlint/seqlint/kafka/Batch", name := "producerEpoch", desc := "()S" } : Jvm.MethodName) prog_49_method_10_code (1 : Nat) (Option.some Jvm.ClassFile.FieldType.short)).before args0 about1 = true := code_word (m := ⟨2, 9⟩) (meth := k2m9) (c := k2c9) (by decide +kernel) rfl rfl rfl (by decide +kernel)
set_option maxRecDepth 65536 in
theorem w_c13 : (Jvm.Cond.code ({ cls := "com/example/seqlint/seqlint/kafka/Batch", name := "baseSequence", desc := "()I" } : Jvm.MethodName) prog_49_method_11_code (1 : Nat) (Option.some Jvm.ClassFile.FieldType.int)).before args0 about1 = true := code_word (m := ⟨2, 10⟩) (meth := k2m10) (c := k2c10) (by decide +kernel) rfl rfl rfl (by decide +kernel)
set_option maxRecDepth 65536 in
theorem w_c14 : (Jvm.Cond.code ({ cls := "com/example/seqlint/seqlint/kafka/Batch", name := "recordCount", desc := "()I" } : Jvm.MethodName) prog_49_method_12_code (1 : Nat) (Option.some Jvm.ClassFile.FieldType.int)).before args0 about1 = true := code_word (m := ⟨2, 11⟩) (meth := k2m11) (c := k2c11) (by decide +kernel) rfl rfl rfl (by decide +kernel)
set_option maxRecDepth 65536 in
theorem w_c15 : (Jvm.Cond.code ({ cls := "com/example/seqlint/seqlint/kafka/Batch", name := "lastOffset", desc := "()J" } : Jvm.MethodName) prog_49_method_17_code (1 : Nat) (Option.some Jvm.ClassFile.FieldType.long)).before args0 about1 = true := code_word (m := ⟨2, 15⟩) (meth := k2m15) (c := k2c15) (by decide +kernel) rfl rfl rfl (by decide +kernel)
set_option maxRecDepth 65536 in
theorem w_c16 : (Jvm.Cond.code ({ cls := "com/example/seqlint/seqlint/kafka/Batch", name := "lastOffset", desc := "(JI)J" } : Jvm.MethodName) prog_49_method_18_code (5 : Nat) (Option.some Jvm.ClassFile.FieldType.long)).before args0 about1 = true := code_word (m := ⟨2, 16⟩) (meth := k2m16) (c := k2c16) (by decide +kernel) rfl rfl rfl (by decide +kernel)
set_option maxRecDepth 65536 in
theorem w_c17 : (Jvm.Cond.code ({ cls := "com/example/seqlint/seqlint/kafka/Batch", name := "isMarker", desc := "()Z" } : Jvm.MethodName) prog_49_method_16_code (1 : Nat) (Option.some Jvm.ClassFile.FieldType.boolean)).before args0 about1 = true := code_word (m := ⟨2, 14⟩) (meth := k2m14) (c := k2c14) (by decide +kernel) rfl rfl rfl (by decide +kernel)
set_option maxRecDepth 65536 in
theorem w_c18 : (Jvm.Cond.code ({ cls := "com/example/seqlint/seqlint/kafka/Batch", name := "isTransactional", desc := "()Z" } : Jvm.MethodName) prog_49_method_15_code (1 : Nat) (Option.some Jvm.ClassFile.FieldType.boolean)).before args0 about1 = true := code_word (m := ⟨2, 13⟩) (meth := k2m13) (c := k2c13) (by decide +kernel) rfl rfl rfl (by decide +kernel)
set_option maxRecDepth 65536 in
theorem w_c19 : (Jvm.Cond.code ({ cls := "com/example/seqlint/seqlint/kafka/Batch", name := "firstTimestamp", desc := "()J" } : Jvm.MethodName) prog_49_method_26_code (1 : Nat) (Option.some Jvm.ClassFile.FieldType.long)).before args0 about1 = true := code_word (m := ⟨2, 19⟩) (meth := k2m19) (c := k2c19) (by decide +kernel) rfl rfl rfl (by decide +kernel)
set_option maxRecDepth 65536 in
theorem w_c20 : (Jvm.Cond.code ({ cls := "com/example/seqlint/seqlint/kafka/Batch", name := "isIntact", desc := "()Z" } : Jvm.MethodName) prog_49_method_23_code (1 : Nat) (Option.some Jvm.ClassFile.FieldType.boolean)).before args0 about1 = true := code_word (m := ⟨2, 17⟩) (meth := k2m17) (c := k2c17) (by decide +kernel) rfl rfl rfl (by decide +kernel)
set_option maxRecDepth 65536 in
theorem w_c21 : (Jvm.Cond.code ({ cls := "com/example/seqlint/seqlint/kafka/Batch", name := "lastTimestamp", desc := "()J" } : Jvm.MethodName) prog_49_method_25_code (1 : Nat) (Option.some Jvm.ClassFile.FieldType.long)).before args0 about1 = true := code_word (m := ⟨2, 18⟩) (meth := k2m18) (c := k2c18) (by decide +kernel) rfl rfl rfl (by decide +kernel)
def codes1 : List Jvm.Cond := [Jvm.Cond.code x code maxLocals ret, Jvm.Cond.code ({ cls := "com/example/seqlint/seqlint/kafka/Batch", name := "<init>", desc := "()V" } : Jvm.MethodName) prog_49_method_1_code (1 : Nat) (Option.none : Option Jvm.ClassFile.FieldType), Jvm.Cond.code ({ cls := "java/lang/Object", name := "<init>", desc := "()V" } : Jvm.MethodName) object_method_1_code (1 : Nat) (Option.none : Option Jvm.ClassFile.FieldType), Jvm.Cond.code ({ cls := "com/example/seqlint/seqlint/kafka/Batch", name := "setRecordsRead", desc := "(JLcom/example/seqlint/seqlint/kafka/Batch$Marker;)V" } : Jvm.MethodName) prog_49_method_3_code (4 : Nat) (Option.none : Option Jvm.ClassFile.FieldType), Jvm.Cond.code ({ cls := "com/example/seqlint/seqlint/kafka/Batch", name := "set", desc := "(JJIJSIJJJSII)V" } : Jvm.MethodName) prog_49_method_2_code (19 : Nat) (Option.none : Option Jvm.ClassFile.FieldType), Jvm.Cond.code ({ cls := "com/example/seqlint/seqlint/kafka/Batch", name := "position", desc := "()J" } : Jvm.MethodName) prog_49_method_4_code (1 : Nat) (Option.some Jvm.ClassFile.FieldType.long), Jvm.Cond.code ({ cls := "com/example/seqlint/seqlint/kafka/Batch", name := "baseOffset", desc := "()J" } : Jvm.MethodName) prog_49_method_5_code (1 : Nat) (Option.some Jvm.ClassFile.FieldType.long), Jvm.Cond.code ({ cls := "com/example/seqlint/seqlint/kafka/Batch", name := "leaderEpoch", desc := "()I" } : Jvm.MethodName) prog_49_method_6_code (1 : Nat) (Option.some Jvm.ClassFile.FieldType.int), Jvm.Cond.code ({ cls := "com/example/seqlint/seqlint/kafka/Batch", name := "storedCrc", desc := "()J" } : Jvm.MethodName) prog_49_method_7_code (1 : Nat) (Option.some Jvm.ClassFile.FieldType.long), Jvm.Cond.code ({ cls := "com/example/seqlint/seqlint/kafka/Batch", name := "computedCrc", desc := "()J" } : Jvm.MethodName) prog_49_method_8_code (1 : Nat) (Option.some Jvm.ClassFile.FieldType.long), Jvm.Cond.code ({ cls := "com/example/seqlint/seqlint/kafka/Batch", name := "marker", desc := "()Lcom/example/seqlint/seqlint/kafka/Batch$Marker;" } : Jvm.MethodName) prog_49_method_13_code (1 : Nat) (Option.some (Jvm.ClassFile.FieldType.object "com/example/seqlint/seqlint/kafka/Batch$Marker")), Jvm.Cond.code ({ cls := "com/example/seqlint/seqlint/kafka/Batch", name := "producerId", desc := "()J" } : Jvm.MethodName) prog_49_method_9_code (1 : Nat) (Option.some Jvm.ClassFile.FieldType.long), Jvm.Cond.code ({ cls := "com/example/seqlint/seqlint/kafka/Batch", name := "producerEpoch", desc := "()S" } : Jvm.MethodName) prog_49_method_10_code (1 : Nat) (Option.some Jvm.ClassFile.FieldType.short), Jvm.Cond.code ({ cls := "com/example/seqlint/seqlint/kafka/Batch", name := "baseSequence", desc := "()I" } : Jvm.MethodName) prog_49_method_11_code (1 : Nat) (Option.some Jvm.ClassFile.FieldType.int), Jvm.Cond.code ({ cls := "com/example/seqlint/seqlint/kafka/Batch", name := "recordCount", desc := "()I" } : Jvm.MethodName) prog_49_method_12_code (1 : Nat) (Option.some Jvm.ClassFile.FieldType.int), Jvm.Cond.code ({ cls := "com/example/seqlint/seqlint/kafka/Batch", name := "lastOffset", desc := "()J" } : Jvm.MethodName) prog_49_method_17_code (1 : Nat) (Option.some Jvm.ClassFile.FieldType.long), Jvm.Cond.code ({ cls := "com/example/seqlint/seqlint/kafka/Batch", name := "lastOffset", desc := "(JI)J" } : Jvm.MethodName) prog_49_method_18_code (5 : Nat) (Option.some Jvm.ClassFile.FieldType.long), Jvm.Cond.code ({ cls := "com/example/seqlint/seqlint/kafka/Batch", name := "isMarker", desc := "()Z" } : Jvm.MethodName) prog_49_method_16_code (1 : Nat) (Option.some Jvm.ClassFile.FieldType.boolean), Jvm.Cond.code ({ cls := "com/example/seqlint/seqlint/kafka/Batch", name := "isTransactional", desc := "()Z" } : Jvm.MethodName) prog_49_method_15_code (1 : Nat) (Option.some Jvm.ClassFile.FieldType.boolean), Jvm.Cond.code ({ cls := "com/example/seqlint/seqlint/kafka/Batch", name := "firstTimestamp", desc := "()J" } : Jvm.MethodName) prog_49_method_26_code (1 : Nat) (Option.some Jvm.ClassFile.FieldType.long), Jvm.Cond.code ({ cls := "com/example/seqlint/seqlint/kafka/Batch", name := "isIntact", desc := "()Z" } : Jvm.MethodName) prog_49_method_23_code (1 : Nat) (Option.some Jvm.ClassFile.FieldType.boolean), Jvm.Cond.code ({ cls := "com/example/seqlint/seqlint/kafka/Batch", name := "lastTimestamp", desc := "()J" } : Jvm.MethodName) prog_49_method_25_code (1 : Nat) (Option.some Jvm.ClassFile.FieldType.long)]
set_option maxRecDepth 65536 in
theorem codes_eq : words1.filter isCode = codes1 := rfl
theorem w_codes : ∀ c ∈ words1.filter isCode, c.before args0 about1 = true := by
  rw [codes_eq]
  intro c hc
  simp only [codes1, List.mem_cons, List.not_mem_nil, or_false] at hc
  rcases hc with rfl | rfl | rfl | rfl | rfl | rfl | rfl | rfl | rfl | rfl | rfl | rfl | rfl | rfl | rfl | rfl | rfl | rfl | rfl | rfl | rfl | rfl
  · exact w_c0
  · exact w_c1
  · exact w_c2
  · exact w_c3
  · exact w_c4
  · exact w_c5
  · exact w_c6
  · exact w_c7
  · exact w_c8
  · exact w_c9
  · exact w_c10
  · exact w_c11
  · exact w_c12
  · exact w_c13
  · exact w_c14
  · exact w_c15
  · exact w_c16
  · exact w_c17
  · exact w_c18
  · exact w_c19
  · exact w_c20
  · exact w_c21
set_option maxRecDepth 65536 in
theorem w_t1 : (words1.take 24).all (fun c => isCode c || c.before args0 about1) = true := by decide +kernel
set_option maxRecDepth 65536 in
theorem w_t2 : ((words1.drop 24).take 24).all (fun c => isCode c || c.before args0 about1) = true := by decide +kernel
set_option maxRecDepth 65536 in
theorem w_t3 : (((words1.drop 24).drop 24).take 24).all (fun c => isCode c || c.before args0 about1) = true := by decide +kernel
set_option maxRecDepth 65536 in
theorem w_t4 : ((((words1.drop 24).drop 24).drop 24).take 24).all (fun c => isCode c || c.before args0 about1) = true := by decide +kernel
set_option maxRecDepth 65536 in
theorem w_t5 : (((((words1.drop 24).drop 24).drop 24).drop 24).take 24).all (fun c => isCode c || c.before args0 about1) = true := by decide +kernel
set_option maxRecDepth 65536 in
theorem w_t6 : (((((words1.drop 24).drop 24).drop 24).drop 24).drop 24).all (fun c => isCode c || c.before args0 about1) = true := by decide +kernel
theorem w_tables : (allAtoms (Jvm.Cond.code x code maxLocals ret :: tables_1)).before args0 about1 = true := by
  rw [allAtoms_all]
  show words1.all (fun c => c.before args0 about1) = true
  refine all_split ?_ w_codes
  rw [← List.take_append_drop 24 words1, List.all_append, w_t1, ← List.take_append_drop 24 (words1.drop 24), List.all_append, w_t2, ← List.take_append_drop 24 ((words1.drop 24).drop 24), List.all_append, w_t3, ← List.take_append_drop 24 (((words1.drop 24).drop 24).drop 24), List.all_append, w_t4, ← List.take_append_drop 24 ((((words1.drop 24).drop 24).drop 24).drop 24), List.all_append, w_t5, w_t6]
  rfl
set_option maxRecDepth 65536 in
theorem w_case : (Jvm.Cond.and given_1 narrow_1).before args0 about1 = true := by decide +kernel
theorem w_applies : (headSpec (Jvm.Cond.code x code maxLocals ret :: tables_1) room_1).applies x e0.platform about1 = true :=
  (Spec.applies_iff w_frames).mpr ⟨w_running, w_runnable, w_alone, w_named, w_hears, w_ripe, w_room, w_tables⟩
theorem atStart : AtStart classFile x code maxLocals ret World_1 tables_1 room_1 Calls_1 rest_1 Pre_1 launch0 p0 e0 about1 theMethod args0 below0 :=
  ⟨lists_1, trivial, launch0.admits_env _ _ _, launch0.least_env, fairChoices_fair.cas, fairChoices_fair.clock, w_frames, w_args, w_heap, w_applies, trivial, trivial, w_case⟩
end start1
theorem witness_1 : WitnessClaimed_1 := ⟨start1.p0, start1.e0, start1.about1, start1.theMethod, start1.args0, start1.below0, start1.atStart⟩
end Jvm.Pilot.@@N@@
