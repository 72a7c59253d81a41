import JvmDerived
import JvmDerived.Pilot.@@N@@Statement
import JvmDerived.Pilot.@@N@@Code
set_option linter.unusedVariables false
set_option linter.unusedSimpArgs false
namespace Jvm.Pilot.@@N@@
open Jvm Jvm.ClassFile Sem Op Lib Jvm.Free Jvm.Stand Jvm.LawKit Jvm.RoadKit Bundle Jvm.Pilot.@@N@@.Jvm.D
/-- from A the run comes to an end of the body that says P -/
def Goes (p : Program) (e : Env) (below : List Frame) (s : State) (P : Option Value → Heap → List Loc → Prop) (k n : Nat) (A : State) : Prop :=
  ∃ s₂ o, Steps p.tables e below A s₂ ∧ s₂.status = .running ∧ Ended s₂ below o ∧ ∃ v L, o = .returned v ∧ P v s₂.heap L ∧ FrameEnd s o s₂ L k n
section OwnGoes
variable {p : Program} {l : Launch} {e : Env} {R : Room} {s : State} {m : MethodId} {args : Array Value} {below : List Frame} {meth : Method} {c : Code} {T : State} {locs : List Loc} {cells slots : Nat} {P : Option Value → Heap → List Loc → Prop} {k n : Nat} {A B : State}
theorem Goes.pre (h : ∀ t, Steps p.tables e below B t → Steps p.tables e below A t) (g : Goes p e below s P k n B) : Goes p e below s P k n A := by
  obtain ⟨t, o, h1, r⟩ := g
  exact ⟨t, o, h _ h1, r⟩
theorem Goes.run (h : Steps p.tables e below A B) (g : Goes p e below s P k n B) : Goes p e below s P k n A := g.pre fun _ q => h.trans q
theorem Goes.ret (X : Stand p l e R s m args below meth c T locs cells slots) (v : Option Value) (hv : meth.sig.returnType = none → v = none) (hlocks : meth.locks = false) (hk : cells ≤ k) (hn : slots ≤ n) {f : JFrame}
    (st : ∀ fs : List Frame, (∀ (f : JFrame) (acts : List Action), f.method = m → f.locked = none → f.entered = [] → (doReturn e (T.setTop f) acts v).1 = T.setFrames fs) → Steps p.tables e below (T.setTop f) (T.setFrames fs))
    (hP : P v T.heap locs) : Goes p e below s P k n (T.setTop f) := by
  obtain ⟨fs, hr, hrun, hended, hW, hsame⟩ := X.leave (v := v) hv hlocks
  exact ⟨_, _, st fs hr, hrun, hended, _, _, rfl, hP, ⟨_, rfl⟩, hW, hsame.mono hk hn⟩
end OwnGoes

theorem own_n (x : Int32) : ¬ ((1 : Int32) + ((x &&& (2147483647 : Int32)) % (999998 : Int32))) < 1 ∧ ((1 : Int32) + ((x &&& (2147483647 : Int32)) % (999998 : Int32))).toInt ≤ 999998 ∧ 1 ≤ ((1 : Int32) + ((x &&& (2147483647 : Int32)) % (999998 : Int32))).toInt := by
  have h0 := c_and x (2147483647 : Int32) (by decide)
  generalize x &&& (2147483647 : Int32) = y at *
  have h1 := (c_irem y (999998 : Int32) 999998 (by decide)).1 h0.1
  have h2 := c_iadd (1 : Int32) (y % 999998)
  have h3 : (1 : Int32).toInt = 1 := by decide
  have h4 := rng32 ((1 : Int32) + y % 999998)
  rw [Int32.lt_iff_toInt_lt, h3]
  omega
theorem own_up {n : Int32} (h1 : 1 ≤ n.toInt) (h2 : n.toInt ≤ 999998) : ¬ n = (999999 : Int32) ∧ ¬ (n + (1 : Int32)) < (1 : Int32) ∧ ¬ (999999 : Int32) < (n + (1 : Int32)) ∧ ¬ (999999 : Int32) < n := by
  have h3 := c_iadd n (1 : Int32)
  have h4 : (1 : Int32).toInt = 1 := by decide
  have h5 : (999999 : Int32).toInt = 999999 := by decide
  have h6 := rng32 (n + 1)
  refine ⟨fun q => ?_, ?_, ?_, ?_⟩
  · rw [q, h5] at h2; omega
  all_goals rw [Int32.lt_iff_toInt_lt]; omega
theorem d2_0 : decode jdk_30_method_1_code 0 = .ok (.aload_n 0, 1) := by decide +kernel
theorem d2_1 : decode jdk_30_method_1_code 1 = .ok (.invokespecial 1, 3) := by decide +kernel
theorem d2_4 : decode jdk_30_method_1_code 4 = .ok (.return_, 1) := by decide +kernel
theorem pn_0 : plainName "java/lang/Record" = true := by first | (simp [plainName, overriddenIn]; done) | decide +kernel
def Q_rm2 (Z : State) (a1 : Addr) (h0 : Heap) (n0 : Nat) (v : Option Value) (h : Heap) (L : List Loc) : Prop := v = none ∧ Fr n0 L ∧ h = h0
theorem ef_rm2 (m : MethodId) (a1 : Addr) : entryFrame m #[(.ref a1)] 1 = mkF m 0 #[.val (.ref a1)] [] := by first | (simp [entryFrame, mkF, argsToLocals, Value.category]; done) | rfl
set_option maxRecDepth 65536 in
set_option maxHeartbeats 40000000 in
theorem rm2 (l : Launch) (Z : State) (a0 : Array Value) (hw : ∀ d ∈ tables_1, d.before a0 Z = true) (ws : List Jvm.Cond) (a1 : Addr) (h0 : Heap) (n0 : Nat) (Z0 : n0 ≤ h0.size) :
    MetFree l (⟨"java/lang/Record", "<init>", "()V"⟩ : MethodName) (head1 (Jvm.Cond.code (⟨"java/lang/Record", "<init>", "()V"⟩ : MethodName) jdk_30_method_1_code 1 none :: ws) ({ frames := 1, cells := 0, slots := 0, locals := 12 } : Room)) (fun a U => a = #[(.ref a1)] ∧ Z.Warmed39 U.vm ∧ U.heap = h0) (fun _ _ _ _ _ => True) (fun _ U o U' => ∃ v L, o = .returned v ∧ Q_rm2 Z a1 h0 n0 v U'.heap L ∧ FrameEnd U o U' L ({ frames := 1, cells := 0, slots := 0, locals := 12 } : Room).cells ({ frames := 1, cells := 0, slots := 0, locals := 12 } : Room).slots) := by
  refine MetFree.of_bodySF (plainFor_of_name pn_0) hisR ?_
  intro p e s m args below meth c s₁ Bd hml0 hP hK
  obtain ⟨rfl, hZ, hh⟩ := hP
  have hx := Bd.exec
  have hby := Bd.bytes
  have hml : c.maxLocals = 1 := hml0
  have hown : s.vm.findClass "java/lang/Record" = some m.cls := findClass_of_methodNamed Bd.named
  have hnm := (name_of_methodNamed Bd.named Bd.method).1
  have X0 : Stand p l e ({ frames := 1, cells := 0, slots := 0, locals := 12 } : Room) s m #[(.ref a1)] below meth c s₁ [] 0 0 := Stand.of_body Bd
  have e0 : s₁.heap = h0 := by rw [← hh, Bd.state]; rfl
  have N0 := Fr.nil n0
  show Goes p e below s (Q_rm2 Z a1 h0 n0) ({ frames := 1, cells := 0, slots := 0, locals := 12 } : Room).cells ({ frames := 1, cells := 0, slots := 0, locals := 12 } : Room).slots (s₁.setTop (entryFrame m #[(.ref a1)] 1))
  refine Goes.pre (fun t kt => castTop (ef_rm2 m a1) kt) ?_
  show Goes p e below s _ _ _ (s₁.setTop (mkF m 0 #[.val (.ref a1)] []))
  refine Goes.pre (fun t kt => XS.aloadN X0.here hx rfl (hb hby d2_0) rfl rfl kt) ?_
  show Goes p e below s _ _ _ (s₁.setTop (mkF m 1 #[.val (.ref a1)] [(.ref a1)]))
  obtain ⟨T1, X1, e1, st1⟩ := initO X0 hx hZ hown (hw _ (List.mem_of_getElem? (i := 13) rfl)) (hw _ (List.mem_of_getElem? (i := 14) rfl)) (hw _ (List.mem_of_getElem? (i := 15) rfl)) e0 (g := (mkF m 1 #[.val (.ref a1)] [(.ref a1)])) rfl (by rw [hml]; rfl) rfl (hb hby d2_1) (by decide) (W := 0) (by show 2 * 0 + _ ≤ _; exact Nat.le_of_eq rfl) (by decide)
  refine Goes.pre st1 ?_
  show Goes p e below s _ _ _ (T1.setTop (mkF m 4 #[.val (.ref a1)] []))
  refine Goes.ret X1 none (fun _ => rfl) (BodyLoose.notSynchronized Bd) (by decide) (by decide) (fun fs hr => X1.returnOut hx Bd.returns (hb hby d2_4) hr) ?_
  show Q_rm2 Z a1 h0 n0 _ T1.heap _
  rw [e1]
  exact ⟨rfl, N0, rfl⟩
theorem d1_0 : decode prog_20_method_1_code 0 = .ok (.aload_n 0, 1) := by decide +kernel
theorem d1_1 : decode prog_20_method_1_code 1 = .ok (.invokespecial 1, 3) := by decide +kernel
theorem pd_1 : parseMethodDescriptor "()V" = some ⟨[], none⟩ := by decide +kernel
theorem d1_4 : decode prog_20_method_1_code 4 = .ok (.iload_n 1, 1) := by decide +kernel
theorem d1_5 : decode prog_20_method_1_code 5 = .ok (.iconst 1, 1) := by decide +kernel
theorem d1_6 : decode prog_20_method_1_code 6 = .ok (.if_icmp .lt 9, 3) := by decide +kernel
theorem d1_9 : decode prog_20_method_1_code 9 = .ok (.iload_n 1, 1) := by decide +kernel
theorem d1_10 : decode prog_20_method_1_code 10 = .ok (.ldc 9, 2) := by decide +kernel
theorem d1_12 : decode prog_20_method_1_code 12 = .ok (.if_icmp .le 17, 3) := by decide +kernel
theorem d1_29 : decode prog_20_method_1_code 29 = .ok (.aload_n 0, 1) := by decide +kernel
theorem d1_30 : decode prog_20_method_1_code 30 = .ok (.iload_n 1, 1) := by decide +kernel
theorem d1_31 : decode prog_20_method_1_code 31 = .ok (.putfield 19, 3) := by decide +kernel
theorem d1_34 : decode prog_20_method_1_code 34 = .ok (.return_, 1) := by decide +kernel
theorem pn_2 : plainName "com/example/stockroom/stockroom/core/VersionLabel" = true := by first | (simp [plainName, overriddenIn]; done) | decide +kernel
def Q_rm1 (Z : State) (a1 : Addr) (p2 : Int32) (h0 : Heap) (n0 : Nat) (v : Option Value) (h : Heap) (L : List Loc) : Prop := v = none ∧ Fr n0 L ∧ Keep h0 h [a1] ∧ (Fld Z h a1 "com/example/stockroom/stockroom/core/VersionLabel" "number" "I" (.int p2))
theorem ef_rm1 (m : MethodId) (a1 : Addr) (p2 : Int32) : entryFrame m #[(.ref a1), (.int p2)] 2 = mkF m 0 #[.val (.ref a1), .val (.int p2)] [] := by first | (simp [entryFrame, mkF, argsToLocals, Value.category]; done) | rfl
set_option maxRecDepth 65536 in
set_option maxHeartbeats 40000000 in
theorem rm1 (l : Launch) (Z : State) (a0 : Array Value) (hw : ∀ d ∈ tables_1, d.before a0 Z = true) (ws : List Jvm.Cond) (a1 : Addr) (p2 : Int32) (h0 : Heap) (n0 : Nat) (Z0 : n0 ≤ h0.size) (pf_F_a1_com_example_stockroom_stockroom_core_VersionLabel_number : Fld Z h0 a1 "com/example/stockroom/stockroom/core/VersionLabel" "number" "I" (.int (0 : Int32))) (pf_E_a1 : Exa Z h0 a1 "com/example/stockroom/stockroom/core/VersionLabel") (pf_G_a1 : n0 ≤ a1) (hlo : ¬ p2 < (1 : Int32)) (hhi : ¬ (999999 : Int32) < p2) :
    MetFree l (⟨"com/example/stockroom/stockroom/core/VersionLabel", "<init>", "(I)V"⟩ : MethodName) (head1 (Jvm.Cond.code (⟨"com/example/stockroom/stockroom/core/VersionLabel", "<init>", "(I)V"⟩ : MethodName) prog_20_method_1_code 2 none :: ws) ({ frames := 2, cells := 0, slots := 0, locals := 24 } : Room)) (fun a U => a = #[(.ref a1), (.int p2)] ∧ Z.Warmed39 U.vm ∧ U.heap = h0) (fun _ _ _ _ _ => True) (fun _ U o U' => ∃ v L, o = .returned v ∧ Q_rm1 Z a1 p2 h0 n0 v U'.heap L ∧ FrameEnd U o U' L ({ frames := 2, cells := 0, slots := 0, locals := 24 } : Room).cells ({ frames := 2, cells := 0, slots := 0, locals := 24 } : Room).slots) := by
  refine MetFree.of_bodySF (plainFor_of_name pn_2) hisR ?_
  intro p e s m args below meth c s₁ Bd hml0 hP hK
  obtain ⟨rfl, hZ, hh⟩ := hP
  have hx := Bd.exec
  have hby := Bd.bytes
  have hml : c.maxLocals = 2 := hml0
  have hown : s.vm.findClass "com/example/stockroom/stockroom/core/VersionLabel" = some m.cls := findClass_of_methodNamed Bd.named
  have hnm := (name_of_methodNamed Bd.named Bd.method).1
  have X0 : Stand p l e ({ frames := 2, cells := 0, slots := 0, locals := 24 } : Room) s m #[(.ref a1), (.int p2)] below meth c s₁ [] 0 0 := Stand.of_body Bd
  have e0 : s₁.heap = h0 := by rw [← hh, Bd.state]; rfl
  have N0 := Fr.nil n0
  have K0 := Keep.refl h0 [a1]
  show Goes p e below s (Q_rm1 Z a1 p2 h0 n0) ({ frames := 2, cells := 0, slots := 0, locals := 24 } : Room).cells ({ frames := 2, cells := 0, slots := 0, locals := 24 } : Room).slots (s₁.setTop (entryFrame m #[(.ref a1), (.int p2)] 2))
  refine Goes.pre (fun t kt => castTop (ef_rm1 m a1 p2) kt) ?_
  show Goes p e below s _ _ _ (s₁.setTop (mkF m 0 #[.val (.ref a1), .val (.int p2)] []))
  refine Goes.pre (fun t kt => XS.aloadN X0.here hx rfl (hb hby d1_0) rfl rfl kt) ?_
  show Goes p e below s _ _ _ (s₁.setTop (mkF m 1 #[.val (.ref a1), .val (.int p2)] [(.ref a1)]))
  obtain ⟨_, _, ⟨T1, L1, k1, n1⟩, -, X1, ⟨Lc1, hQ1, l1, y1, z1⟩, st1⟩ := X0.specialBack hx (y := (⟨"java/lang/Record", "<init>", "()V"⟩ : MethodName)) rfl hown (mvT hZ (hw _ (List.mem_of_getElem? (i := 8) rfl))) (mvT hZ (hw _ (List.mem_of_getElem? (i := 9) rfl))) (mvT hZ (hw _ (List.mem_of_getElem? (i := 12) rfl))) (by decide) (backOf (W := 0) (rm2 l Z a0 hw [] a1 h0 n0 Z0 ) hZ (hw _ (List.mem_of_getElem? (i := 12) rfl)) (hw _ (List.mem_of_getElem? (i := 11) rfl)) (by decide) (by decide)) (g := (mkF m 1 #[.val (.ref a1), .val (.int p2)] [(.ref a1)])) rfl (by rw [hml]; rfl) (Steps.refl _) (a := a1) (argsL := []) (rest := []) (lenOf pd_1 rfl) rfl (by show 2 * 0 + _ ≤ _; exact Nat.le_of_eq rfl) (hb hby d1_1) (fun _ _ => ⟨rfl, e0, (by decide : 0 + 0 ≤ _), (by decide : 0 + 0 ≤ _)⟩)
  dsimp only [Pt.U, Pt.locs, Pt.cells, Pt.slots] at X1 l1 y1 z1 st1 hQ1
  subst l1 y1 z1
  obtain ⟨rfl, Nq1, eq1⟩ := hQ1
  refine Goes.run st1 ?_
  have N1 := Fr.app N0 Nq1
  show Goes p e below s _ _ _ (T1.setTop (mkF m 4 #[.val (.ref a1), .val (.int p2)] []))
  refine Goes.pre (fun t kt => XS.iloadN X1.here hx rfl (hb hby d1_4) rfl kt) ?_
  show Goes p e below s _ _ _ (T1.setTop (mkF m 5 #[.val (.ref a1), .val (.int p2)] [(.int p2)]))
  refine Goes.pre (fun t kt => XS.iconst X1.here hx rfl (hb hby d1_5) kt) ?_
  show Goes p e below s _ _ _ (T1.setTop (mkF m 6 #[.val (.ref a1), .val (.int p2)] [(.int (1 : Int32)), (.int p2)]))
  refine Goes.pre (fun t kt => XS.icmpNo X1.here hx rfl (hb hby d1_6) rfl (Jvm.Free.XT.ii_lt_f (hlo)) kt) ?_
  show Goes p e below s _ _ _ (T1.setTop (mkF m 9 #[.val (.ref a1), .val (.int p2)] []))
  refine Goes.pre (fun t kt => XS.iloadN X1.here hx rfl (hb hby d1_9) rfl kt) ?_
  show Goes p e below s _ _ _ (T1.setTop (mkF m 10 #[.val (.ref a1), .val (.int p2)] [(.int p2)]))
  refine Goes.pre (X1.ldcInt hx hown (mvT hZ (hw _ (List.mem_of_getElem? (i := 16) rfl))) (g := (mkF m 10 #[.val (.ref a1), .val (.int p2)] [(.int p2)])) rfl (hb hby d1_10)) ?_
  show Goes p e below s _ _ _ (T1.setTop (mkF m 12 #[.val (.ref a1), .val (.int p2)] [(.int (999999 : Int32)), (.int p2)]))
  refine Goes.pre (fun t kt => XS.icmpYes X1.here hx rfl (pc0 := 12) (pc' := 29) rfl (hb hby d1_12) rfl (Jvm.Free.XT.ii_le_t (hhi)) (by decide) (by decide) kt) ?_
  show Goes p e below s _ _ _ (T1.setTop (mkF m 29 #[.val (.ref a1), .val (.int p2)] []))
  refine Goes.pre (fun t kt => XS.aloadN X1.here hx rfl (hb hby d1_29) rfl rfl kt) ?_
  show Goes p e below s _ _ _ (T1.setTop (mkF m 30 #[.val (.ref a1), .val (.int p2)] [(.ref a1)]))
  refine Goes.pre (fun t kt => XS.iloadN X1.here hx rfl (hb hby d1_30) rfl kt) ?_
  show Goes p e below s _ _ _ (T1.setTop (mkF m 31 #[.val (.ref a1), .val (.int p2)] [(.int p2), (.ref a1)]))
  obtain ⟨T2, h2, X2, e2, W2, st2⟩ := putF X1 hx hZ hown (host := "") (Or.inl (hw _ (List.mem_of_getElem? (i := 17) rfl))) Via.refl eq1 pf_F_a1_com_example_stockroom_stockroom_core_VersionLabel_number pf_E_a1 (Or.inr ⟨(hw _ (List.mem_of_getElem? (i := 18) rfl)), rfl, hnm⟩) (hw _ (List.mem_of_getElem? (i := 3) rfl)) (ty := .int) (by decide) rfl rfl (g := (mkF m 31 #[.val (.ref a1), .val (.int p2)] [(.int p2), (.ref a1)])) rfl rfl (hb hby d1_31)
  refine Goes.pre st2 ?_
  have Z2 : n0 ≤ h2.size := Nat.le_trans Z0 (Keep.of_wr W2).1
  have N2 := Fr.snoc X2 N1 pf_G_a1
  have K2 := K0.wr W2 (Or.inl (List.mem_of_getElem? (i := 0) rfl))
  have Fw2 : Fld Z h2 a1 "com/example/stockroom/stockroom/core/VersionLabel" "number" "I" (.int p2) := pf_F_a1_com_example_stockroom_stockroom_core_VersionLabel_number.same W2
  show Goes p e below s _ _ _ (T2.setTop (mkF m 34 #[.val (.ref a1), .val (.int p2)] []))
  refine Goes.ret X2 none (fun _ => rfl) (BodyLoose.notSynchronized Bd) (by decide) (by decide) (fun fs hr => X2.returnOut hx Bd.returns (hb hby d1_34) hr) ?_
  show Q_rm1 Z a1 p2 h0 n0 _ T2.heap _
  rw [e2]
  exact ⟨rfl, N2, K2, Fw2⟩
theorem d5_0 : decode prog_20_method_9_code 0 = .ok (.aload_n 0, 1) := by decide +kernel
theorem d5_1 : decode prog_20_method_9_code 1 = .ok (.getfield 19, 3) := by decide +kernel
theorem d5_4 : decode prog_20_method_9_code 4 = .ok (.ireturn, 1) := by decide +kernel
def Q_rm5 (Z : State) (a1 : Addr) (w : Int32) (h0 : Heap) (n0 : Nat) (v : Option Value) (h : Heap) (L : List Loc) : Prop := v = some (.int w) ∧ Fr n0 L ∧ h = h0
theorem ef_rm5 (m : MethodId) (a1 : Addr) : entryFrame m #[(.ref a1)] 1 = mkF m 0 #[.val (.ref a1)] [] := by first | (simp [entryFrame, mkF, argsToLocals, Value.category]; done) | rfl
set_option maxRecDepth 65536 in
set_option maxHeartbeats 40000000 in
theorem rm5 (l : Launch) (Z : State) (a0 : Array Value) (hw : ∀ d ∈ tables_1, d.before a0 Z = true) (ws : List Jvm.Cond) (a1 : Addr) (w : Int32) (h0 : Heap) (n0 : Nat) (Z0 : n0 ≤ h0.size) (pf_F_a1_com_example_stockroom_stockroom_core_VersionLabel_number : Fld Z h0 a1 "com/example/stockroom/stockroom/core/VersionLabel" "number" "I" (.int w)) :
    MetFree l (⟨"com/example/stockroom/stockroom/core/VersionLabel", "number", "()I"⟩ : MethodName) (head1 (Jvm.Cond.code (⟨"com/example/stockroom/stockroom/core/VersionLabel", "number", "()I"⟩ : MethodName) prog_20_method_9_code 1 (some .int) :: ws) ({ frames := 0, cells := 0, slots := 0, locals := 0 } : Room)) (fun a U => a = #[(.ref a1)] ∧ Z.Warmed39 U.vm ∧ U.heap = h0) (fun _ _ _ _ _ => True) (fun _ U o U' => ∃ v L, o = .returned v ∧ Q_rm5 Z a1 w h0 n0 v U'.heap L ∧ FrameEnd U o U' L ({ frames := 0, cells := 0, slots := 0, locals := 0 } : Room).cells ({ frames := 0, cells := 0, slots := 0, locals := 0 } : Room).slots) := by
  refine MetFree.of_bodySF (plainFor_of_name pn_2) hisR ?_
  intro p e s m args below meth c s₁ Bd hml0 hP hK
  obtain ⟨rfl, hZ, hh⟩ := hP
  have hx := Bd.exec
  have hby := Bd.bytes
  have hml : c.maxLocals = 1 := hml0
  have hown : s.vm.findClass "com/example/stockroom/stockroom/core/VersionLabel" = some m.cls := findClass_of_methodNamed Bd.named
  have hnm := (name_of_methodNamed Bd.named Bd.method).1
  have X0 : Stand p l e ({ frames := 0, cells := 0, slots := 0, locals := 0 } : Room) s m #[(.ref a1)] below meth c s₁ [] 0 0 := Stand.of_body Bd
  have e0 : s₁.heap = h0 := by rw [← hh, Bd.state]; rfl
  have N0 := Fr.nil n0
  show Goes p e below s (Q_rm5 Z a1 w h0 n0) ({ frames := 0, cells := 0, slots := 0, locals := 0 } : Room).cells ({ frames := 0, cells := 0, slots := 0, locals := 0 } : Room).slots (s₁.setTop (entryFrame m #[(.ref a1)] 1))
  refine Goes.pre (fun t kt => castTop (ef_rm5 m a1) kt) ?_
  show Goes p e below s _ _ _ (s₁.setTop (mkF m 0 #[.val (.ref a1)] []))
  refine Goes.pre (fun t kt => XS.aloadN X0.here hx rfl (hb hby d5_0) rfl rfl kt) ?_
  show Goes p e below s _ _ _ (s₁.setTop (mkF m 1 #[.val (.ref a1)] [(.ref a1)]))
  obtain ⟨T1, X1, e1, st1⟩ := getF X0 hx hZ hown (host := "") (Or.inl (hw _ (List.mem_of_getElem? (i := 17) rfl))) Via.refl e0 pf_F_a1_com_example_stockroom_stockroom_core_VersionLabel_number (g := (mkF m 1 #[.val (.ref a1)] [(.ref a1)])) rfl rfl (hb hby d5_1)
  refine Goes.pre st1 ?_
  show Goes p e below s _ _ _ (T1.setTop (mkF m 4 #[.val (.ref a1)] [(.int w)]))
  refine Goes.ret X1 (some (.int w)) (fun h => by rw [Bd.returns] at h; cases h) (BodyLoose.notSynchronized Bd) (by decide) (by decide) (fun fs hr => retOut X1 hx (t := .int) Bd.returns rfl (Or.inl ⟨rfl, Or.inl rfl, _, rfl⟩) (hb hby d5_4) hr) ?_
  show Q_rm5 Z a1 w h0 n0 _ T1.heap _
  rw [e1]
  exact ⟨rfl, N0, rfl⟩
theorem d4_0 : decode prog_20_method_5_code 0 = .ok (.aload_n 0, 1) := by decide +kernel
theorem d4_1 : decode prog_20_method_5_code 1 = .ok (.getfield 19, 3) := by decide +kernel
theorem d4_4 : decode prog_20_method_5_code 4 = .ok (.ldc 9, 2) := by decide +kernel
theorem d4_6 : decode prog_20_method_5_code 6 = .ok (.if_icmp .ne 13, 3) := by decide +kernel
theorem d4_19 : decode prog_20_method_5_code 19 = .ok (.new 7, 3) := by decide +kernel
theorem d4_22 : decode prog_20_method_5_code 22 = .ok (.dup, 1) := by decide +kernel
theorem d4_23 : decode prog_20_method_5_code 23 = .ok (.aload_n 0, 1) := by decide +kernel
theorem d4_24 : decode prog_20_method_5_code 24 = .ok (.getfield 19, 3) := by decide +kernel
theorem d4_27 : decode prog_20_method_5_code 27 = .ok (.iconst 1, 1) := by decide +kernel
theorem d4_28 : decode prog_20_method_5_code 28 = .ok (.iadd, 1) := by decide +kernel
theorem d4_29 : decode prog_20_method_5_code 29 = .ok (.invokespecial 23, 3) := by decide +kernel
theorem pd_3 : parseMethodDescriptor "(I)V" = some ⟨[.int], none⟩ := by decide +kernel
theorem d4_32 : decode prog_20_method_5_code 32 = .ok (.areturn, 1) := by decide +kernel
def Q_rm4 (Z : State) (a1 : Addr) (w : Int32) (h0 : Heap) (n0 : Nat) (v : Option Value) (h : Heap) (L : List Loc) : Prop := ∃ r : Addr, v = some (.ref r) ∧ Fr n0 L ∧ Keep h0 h [] ∧ (h0.size ≤ r) ∧ (n0 ≤ r) ∧ (Exa Z h r "com/example/stockroom/stockroom/core/VersionLabel") ∧ (Fld Z h r "com/example/stockroom/stockroom/core/VersionLabel" "number" "I" (.int (w + (1 : Int32))))
theorem ef_rm4 (m : MethodId) (a1 : Addr) : entryFrame m #[(.ref a1)] 1 = mkF m 0 #[.val (.ref a1)] [] := by first | (simp [entryFrame, mkF, argsToLocals, Value.category]; done) | rfl
set_option maxRecDepth 65536 in
set_option maxHeartbeats 40000000 in
theorem rm4 (l : Launch) (Z : State) (a0 : Array Value) (hw : ∀ d ∈ tables_1, d.before a0 Z = true) (ws : List Jvm.Cond) (a1 : Addr) (w : Int32) (h0 : Heap) (n0 : Nat) (Z0 : n0 ≤ h0.size) (pf_F_a1_com_example_stockroom_stockroom_core_VersionLabel_number : Fld Z h0 a1 "com/example/stockroom/stockroom/core/VersionLabel" "number" "I" (.int w)) (pf_E_a1 : Exa Z h0 a1 "com/example/stockroom/stockroom/core/VersionLabel") (hne : ¬ w = (999999 : Int32)) (hlo : ¬ (w + (1 : Int32)) < (1 : Int32)) (hhi : ¬ (999999 : Int32) < (w + (1 : Int32))) :
    MetFree l (⟨"com/example/stockroom/stockroom/core/VersionLabel", "next", "()Lcom/example/stockroom/stockroom/core/VersionLabel;"⟩ : MethodName) (head1 (Jvm.Cond.code (⟨"com/example/stockroom/stockroom/core/VersionLabel", "next", "()Lcom/example/stockroom/stockroom/core/VersionLabel;"⟩ : MethodName) prog_20_method_5_code 1 (some (.object "com/example/stockroom/stockroom/core/VersionLabel")) :: ws) ({ frames := 3, cells := 1, slots := 1, locals := 38 } : Room)) (fun a U => a = #[(.ref a1)] ∧ Z.Warmed39 U.vm ∧ U.heap = h0) (fun _ _ _ _ _ => True) (fun _ U o U' => ∃ v L, o = .returned v ∧ Q_rm4 Z a1 w h0 n0 v U'.heap L ∧ FrameEnd U o U' L ({ frames := 3, cells := 1, slots := 1, locals := 38 } : Room).cells ({ frames := 3, cells := 1, slots := 1, locals := 38 } : Room).slots) := by
  refine MetFree.of_bodySF (plainFor_of_name pn_2) hisR ?_
  intro p e s m args below meth c s₁ Bd hml0 hP hK
  obtain ⟨rfl, hZ, hh⟩ := hP
  have hx := Bd.exec
  have hby := Bd.bytes
  have hml : c.maxLocals = 1 := hml0
  have hown : s.vm.findClass "com/example/stockroom/stockroom/core/VersionLabel" = some m.cls := findClass_of_methodNamed Bd.named
  have hnm := (name_of_methodNamed Bd.named Bd.method).1
  have X0 : Stand p l e ({ frames := 3, cells := 1, slots := 1, locals := 38 } : Room) s m #[(.ref a1)] below meth c s₁ [] 0 0 := Stand.of_body Bd
  have e0 : s₁.heap = h0 := by rw [← hh, Bd.state]; rfl
  have N0 := Fr.nil n0
  have K0 := Keep.refl h0 []
  show Goes p e below s (Q_rm4 Z a1 w h0 n0) ({ frames := 3, cells := 1, slots := 1, locals := 38 } : Room).cells ({ frames := 3, cells := 1, slots := 1, locals := 38 } : Room).slots (s₁.setTop (entryFrame m #[(.ref a1)] 1))
  refine Goes.pre (fun t kt => castTop (ef_rm4 m a1) kt) ?_
  show Goes p e below s _ _ _ (s₁.setTop (mkF m 0 #[.val (.ref a1)] []))
  refine Goes.pre (fun t kt => XS.aloadN X0.here hx rfl (hb hby d4_0) rfl rfl kt) ?_
  show Goes p e below s _ _ _ (s₁.setTop (mkF m 1 #[.val (.ref a1)] [(.ref a1)]))
  obtain ⟨T1, X1, e1, st1⟩ := getF X0 hx hZ hown (host := "") (Or.inl (hw _ (List.mem_of_getElem? (i := 17) rfl))) Via.refl e0 pf_F_a1_com_example_stockroom_stockroom_core_VersionLabel_number (g := (mkF m 1 #[.val (.ref a1)] [(.ref a1)])) rfl rfl (hb hby d4_1)
  refine Goes.pre st1 ?_
  show Goes p e below s _ _ _ (T1.setTop (mkF m 4 #[.val (.ref a1)] [(.int w)]))
  refine Goes.pre (X1.ldcInt hx hown (mvT hZ (hw _ (List.mem_of_getElem? (i := 16) rfl))) (g := (mkF m 4 #[.val (.ref a1)] [(.int w)])) rfl (hb hby d4_4)) ?_
  show Goes p e below s _ _ _ (T1.setTop (mkF m 6 #[.val (.ref a1)] [(.int (999999 : Int32)), (.int w)]))
  refine Goes.pre (fun t kt => XS.icmpYes X1.here hx rfl (pc0 := 6) (pc' := 19) rfl (hb hby d4_6) rfl (Jvm.Free.XT.ii_ne_t (hne)) (by decide) (by decide) kt) ?_
  show Goes p e below s _ _ _ (T1.setTop (mkF m 19 #[.val (.ref a1)] []))
  obtain ⟨T2, h2, X2, e2, E2, A2, D2, U2, st2⟩ := newO X1 hx hZ hown (hw _ (List.mem_of_getElem? (i := 24) rfl)) (hw _ (List.mem_of_getElem? (i := 3) rfl)) (hw _ (List.mem_of_getElem? (i := 4) rfl)) e1 (g := (mkF m 19 #[.val (.ref a1)] [])) rfl (hb hby d4_19) (by decide) (by decide)
  obtain ⟨b2, g2⟩ : ∃ z, z = h0.size := ⟨_, rfl⟩
  rw [← g2] at A2 D2 U2 st2
  have lta1_2 : a1 < b2 := Nat.lt_of_lt_of_le pf_E_a1.lt (Nat.le_of_eq g2.symm)
  have gg2 : n0 ≤ b2 := Nat.le_trans Z0 (Nat.le_of_eq g2.symm)
  have sz2 : h0.size ≤ b2 := Nat.le_trans K0.1 (Nat.le_of_eq g2.symm)
  have Z2 : n0 ≤ h2.size := Nat.le_trans Z0 E2.1
  have K2 := K0.ext E2
  refine Goes.pre st2 ?_
  have Fn2_18 : Fld Z h2 b2 "com/example/stockroom/stockroom/core/VersionLabel" "number" "I" (.int (0 : Int32)) := D2 (Or.inr (hw _ (List.mem_of_getElem? (i := 18) rfl))) (ty := .int) (by decide)
  show Goes p e below s _ _ _ (T2.setTop (mkF m 22 #[.val (.ref a1)] [(.ref b2)]))
  refine Goes.pre (fun t kt => XS.dup X2.here hx rfl (hb hby d4_22) rfl rfl kt) ?_
  show Goes p e below s _ _ _ (T2.setTop (mkF m 23 #[.val (.ref a1)] [(.ref b2), (.ref b2)]))
  refine Goes.pre (fun t kt => XS.aloadN X2.here hx rfl (hb hby d4_23) rfl rfl kt) ?_
  show Goes p e below s _ _ _ (T2.setTop (mkF m 24 #[.val (.ref a1)] [(.ref a1), (.ref b2), (.ref b2)]))
  have f3 : Fld Z h2 a1 "com/example/stockroom/stockroom/core/VersionLabel" "number" "I" (.int w) := (pf_F_a1_com_example_stockroom_stockroom_core_VersionLabel_number.ext E2)
  obtain ⟨T4, X4, e4, st4⟩ := getF X2 hx hZ hown (host := "") (Or.inl (hw _ (List.mem_of_getElem? (i := 17) rfl))) Via.refl e2 f3 (g := (mkF m 24 #[.val (.ref a1)] [(.ref a1), (.ref b2), (.ref b2)])) rfl rfl (hb hby d4_24)
  refine Goes.pre st4 ?_
  show Goes p e below s _ _ _ (T4.setTop (mkF m 27 #[.val (.ref a1)] [(.int w), (.ref b2), (.ref b2)]))
  refine Goes.pre (fun t kt => XS.iconst X4.here hx rfl (hb hby d4_27) kt) ?_
  show Goes p e below s _ _ _ (T4.setTop (mkF m 28 #[.val (.ref a1)] [(.int (1 : Int32)), (.int w), (.ref b2), (.ref b2)]))
  refine Goes.pre (fun t kt => XS.iadd X4.here hx rfl (hb hby d4_28) rfl kt) ?_
  show Goes p e below s _ _ _ (T4.setTop (mkF m 29 #[.val (.ref a1)] [(.int (w + (1 : Int32))), (.ref b2), (.ref b2)]))
  obtain ⟨_, _, ⟨T5, L5, k5, n5⟩, -, X5, ⟨Lc5, hQ5, l5, y5, z5⟩, st5⟩ := X4.specialBack hx (y := (⟨"com/example/stockroom/stockroom/core/VersionLabel", "<init>", "(I)V"⟩ : MethodName)) rfl hown (mvT hZ (hw _ (List.mem_of_getElem? (i := 25) rfl))) (mvT hZ (hw _ (List.mem_of_getElem? (i := 6) rfl))) (mvT hZ (hw _ (List.mem_of_getElem? (i := 7) rfl))) (by decide) (backOf (W := 1) (rm1 l Z a0 hw [] b2 (w + (1 : Int32)) h2 n0 Z2 Fn2_18 A2 gg2 (hlo) (hhi)) hZ (hw _ (List.mem_of_getElem? (i := 7) rfl)) (hw _ (List.mem_of_getElem? (i := 4) rfl)) (by decide) (by decide)) (g := (mkF m 29 #[.val (.ref a1)] [(.int (w + (1 : Int32))), (.ref b2), (.ref b2)])) rfl (by rw [hml]; rfl) (Steps.refl _) (a := b2) (argsL := [(.int (w + (1 : Int32)))]) (rest := [(.ref b2)]) (lenOf pd_3 rfl) rfl (by show 2 * 0 + _ ≤ _; exact Nat.le_of_eq rfl) (hb hby d4_29) (fun _ _ => ⟨rfl, e4, (by decide : 1 + 0 ≤ _), (by decide : 1 + 0 ≤ _)⟩)
  dsimp only [Pt.U, Pt.locs, Pt.cells, Pt.slots] at X5 l5 y5 z5 st5 hQ5
  subst l5 y5 z5
  obtain ⟨rfl, Nq5, Kq5, pq5_0⟩ := hQ5
  refine Goes.run st5 ?_
  have N5 := Fr.app N0 Nq5
  obtain ⟨h5, e5⟩ : ∃ z, T5.heap = z := ⟨_, rfl⟩
  rw [e5] at Kq5 pq5_0
  have Z5 : n0 ≤ h5.size := Nat.le_trans Z2 Kq5.1
  have K5 := K2.trans Kq5 (allS (P := fun x => x ∈ [] ∨ h0.size ≤ x) (Or.inr sz2) all0)
  show Goes p e below s _ _ _ (T5.setTop (mkF m 32 #[.val (.ref a1)] [(.ref b2)]))
  have f6 : Exa Z h5 b2 "com/example/stockroom/stockroom/core/VersionLabel" := (A2.keep Kq5)
  refine Goes.ret X5 (some (.ref b2)) (fun h => by rw [Bd.returns] at h; cases h) (BodyLoose.notSynchronized Bd) (by decide) (by decide) (fun fs hr => retOut X5 hx (t := (.object "com/example/stockroom/stockroom/core/VersionLabel")) Bd.returns rfl (Or.inr (Or.inr (Or.inr (Or.inr ⟨rfl, rfl, rfl⟩)))) (hb hby d4_32) hr) ?_
  show Q_rm4 Z a1 w h0 n0 _ T5.heap _
  rw [e5]
  exact ⟨b2, rfl, N5, K5, sz2, gg2, f6, pq5_0⟩
theorem pd_4 : parseMethodDescriptor "()Lcom/example/stockroom/stockroom/core/VersionLabel;" = some ⟨[], some (.object "com/example/stockroom/stockroom/core/VersionLabel")⟩ := by decide +kernel
theorem pd_5 : parseMethodDescriptor "()I" = some ⟨[], some .int⟩ := by decide +kernel
theorem pn_6 : plainName "com/example/stockroom/stockroom/core/VersionLabelNextPinLaw" = true := by first | (simp [plainName, overriddenIn]; done) | decide +kernel
def Q_rm0 (Z : State) (p1 : Int32) (h0 : Heap) (n0 : Nat) (v : Option Value) (h : Heap) (L : List Loc) : Prop := v = some (.int (1 : Int32)) ∧ Fr n0 L
theorem ef_rm0 (m : MethodId) (p1 : Int32) : entryFrame m #[(.int p1)] maxLocals = mkF m 0 #[.val (.int p1), .unset, .unset, .unset] [] := by first | (simp [entryFrame, mkF, argsToLocals, Value.category, maxLocals]; done) | rfl
set_option maxRecDepth 65536 in
set_option maxHeartbeats 40000000 in
theorem rm0 (l : Launch) (Z : State) (a0 : Array Value) (hw : ∀ d ∈ tables_1, d.before a0 Z = true) (ws : List Jvm.Cond) (p1 : Int32) (h0 : Heap) (n0 : Nat) (Z0 : n0 ≤ h0.size) :
    MetFree l x (head1 (Jvm.Cond.code x code maxLocals ret :: ws) room_1) (fun a U => a = #[(.int p1)] ∧ Z.Warmed39 U.vm ∧ U.heap = h0) (fun _ _ _ _ _ => True) (fun _ U o U' => ∃ v L, o = .returned v ∧ Q_rm0 Z p1 h0 n0 v U'.heap L ∧ FrameEnd U o U' L room_1.cells room_1.slots) := by
  refine MetFree.of_bodySF (plainFor_of_name pn_6) hisR ?_
  intro p e s m args below meth c s₁ Bd hml0 hP hK
  obtain ⟨rfl, hZ, hh⟩ := hP
  have hx := Bd.exec
  have hby := Bd.bytes
  have hml : c.maxLocals = 4 := hml0
  have hown : s.vm.findClass "com/example/stockroom/stockroom/core/VersionLabelNextPinLaw" = some m.cls := findClass_of_methodNamed Bd.named
  have hnm := (name_of_methodNamed Bd.named Bd.method).1
  have X0 : Stand p l e room_1 s m #[(.int p1)] below meth c s₁ [] 0 0 := Stand.of_body Bd
  have e0 : s₁.heap = h0 := by rw [← hh, Bd.state]; rfl
  have N0 := Fr.nil n0
  show Goes p e below s (Q_rm0 Z p1 h0 n0) room_1.cells room_1.slots (s₁.setTop (entryFrame m #[(.int p1)] maxLocals))
  refine Goes.pre (fun t kt => castTop (ef_rm0 m p1) kt) ?_
  show Goes p e below s _ _ _ (s₁.setTop (mkF m 0 #[.val (.int p1), .unset, .unset, .unset] []))
  refine Goes.pre (fun t kt => XS.iconst X0.here hx rfl (hb hby at_0) kt) ?_
  show Goes p e below s _ _ _ (s₁.setTop (mkF m 1 #[.val (.int p1), .unset, .unset, .unset] [(.int (1 : Int32))]))
  refine Goes.pre (fun t kt => XS.iloadN X0.here hx rfl (hb hby at_1) rfl kt) ?_
  show Goes p e below s _ _ _ (s₁.setTop (mkF m 2 #[.val (.int p1), .unset, .unset, .unset] [(.int p1), (.int (1 : Int32))]))
  refine Goes.pre (X0.ldcInt hx hown (mvT hZ (hw _ (List.mem_of_getElem? (i := 0) rfl))) (g := (mkF m 2 #[.val (.int p1), .unset, .unset, .unset] [(.int p1), (.int (1 : Int32))])) rfl (hb hby at_2)) ?_
  show Goes p e below s _ _ _ (s₁.setTop (mkF m 4 #[.val (.int p1), .unset, .unset, .unset] [(.int (2147483647 : Int32)), (.int p1), (.int (1 : Int32))]))
  refine Goes.pre (fun t kt => XS.iand X0.here hx rfl (hb hby at_4) rfl kt) ?_
  show Goes p e below s _ _ _ (s₁.setTop (mkF m 5 #[.val (.int p1), .unset, .unset, .unset] [(.int (p1 &&& (2147483647 : Int32))), (.int (1 : Int32))]))
  refine Goes.pre (X0.ldcInt hx hown (mvT hZ (hw _ (List.mem_of_getElem? (i := 1) rfl))) (g := (mkF m 5 #[.val (.int p1), .unset, .unset, .unset] [(.int (p1 &&& (2147483647 : Int32))), (.int (1 : Int32))])) rfl (hb hby at_5)) ?_
  show Goes p e below s _ _ _ (s₁.setTop (mkF m 7 #[.val (.int p1), .unset, .unset, .unset] [(.int (999998 : Int32)), (.int (p1 &&& (2147483647 : Int32))), (.int (1 : Int32))]))
  refine Goes.pre (fun t kt => Jvm.RoadKit.iremM X0 hx rfl (hb hby at_7) rfl (by decide) kt) ?_
  show Goes p e below s _ _ _ (s₁.setTop (mkF m 8 #[.val (.int p1), .unset, .unset, .unset] [(.int ((p1 &&& (2147483647 : Int32)) % (999998 : Int32))), (.int (1 : Int32))]))
  refine Goes.pre (fun t kt => XS.iadd X0.here hx rfl (hb hby at_8) rfl kt) ?_
  show Goes p e below s _ _ _ (s₁.setTop (mkF m 9 #[.val (.int p1), .unset, .unset, .unset] [(.int ((1 : Int32) + ((p1 &&& (2147483647 : Int32)) % (999998 : Int32))))]))
  refine Goes.pre (fun t kt => XS.istoreN X0.here hx rfl (hb hby at_9) rfl (l' := #[.val (.int p1), .val (.int ((1 : Int32) + ((p1 &&& (2147483647 : Int32)) % (999998 : Int32)))), .unset, .unset]) rfl kt) ?_
  show Goes p e below s _ _ _ (s₁.setTop (mkF m 10 #[.val (.int p1), .val (.int ((1 : Int32) + ((p1 &&& (2147483647 : Int32)) % (999998 : Int32)))), .unset, .unset] []))
  obtain ⟨T1, h1, X1, e1, E1, A1, D1, U1, st1⟩ := newO X0 hx hZ hown (hw _ (List.mem_of_getElem? (i := 2) rfl)) (hw _ (List.mem_of_getElem? (i := 3) rfl)) (hw _ (List.mem_of_getElem? (i := 4) rfl)) e0 (g := (mkF m 10 #[.val (.int p1), .val (.int ((1 : Int32) + ((p1 &&& (2147483647 : Int32)) % (999998 : Int32)))), .unset, .unset] [])) rfl (hb hby at_10) (by decide) (by decide)
  obtain ⟨b1, g1⟩ : ∃ z, z = h0.size := ⟨_, rfl⟩
  rw [← g1] at A1 D1 U1 st1
  have gg1 : n0 ≤ b1 := Nat.le_trans Z0 (Nat.le_of_eq g1.symm)
  have Z1 : n0 ≤ h1.size := Nat.le_trans Z0 E1.1
  refine Goes.pre st1 ?_
  have Fn1_18 : Fld Z h1 b1 "com/example/stockroom/stockroom/core/VersionLabel" "number" "I" (.int (0 : Int32)) := D1 (Or.inr (hw _ (List.mem_of_getElem? (i := 18) rfl))) (ty := .int) (by decide)
  show Goes p e below s _ _ _ (T1.setTop (mkF m 13 #[.val (.int p1), .val (.int ((1 : Int32) + ((p1 &&& (2147483647 : Int32)) % (999998 : Int32)))), .unset, .unset] [(.ref b1)]))
  refine Goes.pre (fun t kt => XS.dup X1.here hx rfl (hb hby at_13) rfl rfl kt) ?_
  show Goes p e below s _ _ _ (T1.setTop (mkF m 14 #[.val (.int p1), .val (.int ((1 : Int32) + ((p1 &&& (2147483647 : Int32)) % (999998 : Int32)))), .unset, .unset] [(.ref b1), (.ref b1)]))
  refine Goes.pre (fun t kt => XS.iloadN X1.here hx rfl (hb hby at_14) rfl kt) ?_
  show Goes p e below s _ _ _ (T1.setTop (mkF m 15 #[.val (.int p1), .val (.int ((1 : Int32) + ((p1 &&& (2147483647 : Int32)) % (999998 : Int32)))), .unset, .unset] [(.int ((1 : Int32) + ((p1 &&& (2147483647 : Int32)) % (999998 : Int32)))), (.ref b1), (.ref b1)]))
  obtain ⟨_, _, ⟨T2, L2, k2, n2⟩, -, X2, ⟨Lc2, hQ2, l2, y2, z2⟩, st2⟩ := X1.specialBack hx (y := (⟨"com/example/stockroom/stockroom/core/VersionLabel", "<init>", "(I)V"⟩ : MethodName)) rfl hown (mvT hZ (hw _ (List.mem_of_getElem? (i := 5) rfl))) (mvT hZ (hw _ (List.mem_of_getElem? (i := 6) rfl))) (mvT hZ (hw _ (List.mem_of_getElem? (i := 7) rfl))) (by decide) (backOf (W := 1) (rm1 l Z a0 hw [] b1 ((1 : Int32) + ((p1 &&& (2147483647 : Int32)) % (999998 : Int32))) h1 n0 Z1 Fn1_18 A1 gg1 ((own_n p1).1) ((own_up (own_n p1).2.2 (own_n p1).2.1).2.2.2)) hZ (hw _ (List.mem_of_getElem? (i := 7) rfl)) (hw _ (List.mem_of_getElem? (i := 4) rfl)) (by decide) (by decide)) (g := (mkF m 15 #[.val (.int p1), .val (.int ((1 : Int32) + ((p1 &&& (2147483647 : Int32)) % (999998 : Int32)))), .unset, .unset] [(.int ((1 : Int32) + ((p1 &&& (2147483647 : Int32)) % (999998 : Int32)))), (.ref b1), (.ref b1)])) rfl (by rw [hml]; rfl) (Steps.refl _) (a := b1) (argsL := [(.int ((1 : Int32) + ((p1 &&& (2147483647 : Int32)) % (999998 : Int32))))]) (rest := [(.ref b1)]) (lenOf pd_3 rfl) rfl (by show 2 * 0 + _ ≤ _; exact Nat.le_of_eq rfl) (hb hby at_15) (fun _ _ => ⟨rfl, e1, (by decide : 1 + 0 ≤ _), (by decide : 1 + 0 ≤ _)⟩)
  dsimp only [Pt.U, Pt.locs, Pt.cells, Pt.slots] at X2 l2 y2 z2 st2 hQ2
  subst l2 y2 z2
  obtain ⟨rfl, Nq2, Kq2, pq2_0⟩ := hQ2
  refine Goes.run st2 ?_
  have N2 := Fr.app N0 Nq2
  obtain ⟨h2, e2⟩ : ∃ z, T2.heap = z := ⟨_, rfl⟩
  rw [e2] at Kq2 pq2_0
  have Z2 : n0 ≤ h2.size := Nat.le_trans Z1 Kq2.1
  show Goes p e below s _ _ _ (T2.setTop (mkF m 18 #[.val (.int p1), .val (.int ((1 : Int32) + ((p1 &&& (2147483647 : Int32)) % (999998 : Int32)))), .unset, .unset] [(.ref b1)]))
  refine Goes.pre (fun t kt => XS.astoreN X2.here hx rfl (hb hby at_18) rfl rfl (l' := #[.val (.int p1), .val (.int ((1 : Int32) + ((p1 &&& (2147483647 : Int32)) % (999998 : Int32)))), .val (.ref b1), .unset]) rfl kt) ?_
  show Goes p e below s _ _ _ (T2.setTop (mkF m 19 #[.val (.int p1), .val (.int ((1 : Int32) + ((p1 &&& (2147483647 : Int32)) % (999998 : Int32)))), .val (.ref b1), .unset] []))
  refine Goes.pre (fun t kt => XS.aloadN X2.here hx rfl (hb hby at_19) rfl rfl kt) ?_
  show Goes p e below s _ _ _ (T2.setTop (mkF m 20 #[.val (.int p1), .val (.int ((1 : Int32) + ((p1 &&& (2147483647 : Int32)) % (999998 : Int32)))), .val (.ref b1), .unset] [(.ref b1)]))
  have f3 : Exa Z h2 b1 "com/example/stockroom/stockroom/core/VersionLabel" := (A1.keep Kq2)
  obtain ⟨cq5, kq5, qa5, qb5, qc5⟩ := isOf hZ e2 f3
  obtain ⟨_, _, ⟨T4, L4, k4, n4⟩, -, X4, ⟨Lc4, hQ4, l4, y4, z4⟩, st4⟩ := X2.virtualBack hx (y := (⟨"com/example/stockroom/stockroom/core/VersionLabel", "next", "()Lcom/example/stockroom/stockroom/core/VersionLabel;"⟩ : MethodName)) (z := (⟨"com/example/stockroom/stockroom/core/VersionLabel", "next", "()Lcom/example/stockroom/stockroom/core/VersionLabel;"⟩ : MethodName)) hown (mvT hZ (hw _ (List.mem_of_getElem? (i := 19) rfl))) (mvT hZ (hw _ (List.mem_of_getElem? (i := 20) rfl))) (notFace_of_selects (args := #[]) (mvT hZ (hw _ (List.mem_of_getElem? (i := 22) rfl)))) (mvT hZ (hw _ (List.mem_of_getElem? (i := 22) rfl))) (mvT hZ (hw _ (List.mem_of_getElem? (i := 21) rfl))) (by decide) (backOf (W := 0) (rm4 l Z a0 hw [] b1 ((1 : Int32) + ((p1 &&& (2147483647 : Int32)) % (999998 : Int32))) h2 n0 Z2 pq2_0 f3 ((own_up (own_n p1).2.2 (own_n p1).2.1).1) ((own_up (own_n p1).2.2 (own_n p1).2.1).2.1) ((own_up (own_n p1).2.2 (own_n p1).2.1).2.2.1)) hZ (hw _ (List.mem_of_getElem? (i := 23) rfl)) (hw _ (List.mem_of_getElem? (i := 4) rfl)) (by decide) (by decide)) qa5 qc5 (g := (mkF m 20 #[.val (.int p1), .val (.int ((1 : Int32) + ((p1 &&& (2147483647 : Int32)) % (999998 : Int32)))), .val (.ref b1), .unset] [(.ref b1)])) rfl (by rw [hml]; rfl) (Steps.refl _) (argsL := []) (rest := []) (lenOf pd_4 rfl) rfl (by show 2 * 0 + _ ≤ _; exact Nat.le_of_eq rfl) (hb hby at_20) (fun _ _ => ⟨rfl, e2, (by decide : 1 + 1 ≤ _), (by decide : 1 + 1 ≤ _)⟩)
  dsimp only [Pt.U, Pt.locs, Pt.cells, Pt.slots] at X4 l4 y4 z4 st4 hQ4
  subst l4 y4 z4
  obtain ⟨r_4, rfl, Nq4, Kq4, pq4_0, pq4_1, pq4_2, pq4_3⟩ := hQ4
  refine Goes.run st4 ?_
  have N4 := Fr.app N2 Nq4
  obtain ⟨h4, e4⟩ : ∃ z, T4.heap = z := ⟨_, rfl⟩
  rw [e4] at Kq4 pq4_2 pq4_3
  have ltb1_4_r_4 : b1 < r_4 := Nat.lt_of_lt_of_le f3.lt pq4_0
  have Z4 : n0 ≤ h4.size := Nat.le_trans Z2 Kq4.1
  show Goes p e below s _ _ _ (T4.setTop (mkF m 23 #[.val (.int p1), .val (.int ((1 : Int32) + ((p1 &&& (2147483647 : Int32)) % (999998 : Int32)))), .val (.ref b1), .unset] [(.ref r_4)]))
  refine Goes.pre (fun t kt => XS.astoreN X4.here hx rfl (hb hby at_23) rfl rfl (l' := #[.val (.int p1), .val (.int ((1 : Int32) + ((p1 &&& (2147483647 : Int32)) % (999998 : Int32)))), .val (.ref b1), .val (.ref r_4)]) rfl kt) ?_
  show Goes p e below s _ _ _ (T4.setTop (mkF m 24 #[.val (.int p1), .val (.int ((1 : Int32) + ((p1 &&& (2147483647 : Int32)) % (999998 : Int32)))), .val (.ref b1), .val (.ref r_4)] []))
  refine Goes.pre (fun t kt => XS.aloadN X4.here hx rfl (hb hby at_24) rfl rfl kt) ?_
  show Goes p e below s _ _ _ (T4.setTop (mkF m 25 #[.val (.int p1), .val (.int ((1 : Int32) + ((p1 &&& (2147483647 : Int32)) % (999998 : Int32)))), .val (.ref b1), .val (.ref r_4)] [(.ref r_4)]))
  obtain ⟨cq7, kq7, qa7, qb7, qc7⟩ := isOf hZ e4 pq4_2
  obtain ⟨_, _, ⟨T6, L6, k6, n6⟩, -, X6, ⟨Lc6, hQ6, l6, y6, z6⟩, st6⟩ := X4.virtualBack hx (y := (⟨"com/example/stockroom/stockroom/core/VersionLabel", "number", "()I"⟩ : MethodName)) (z := (⟨"com/example/stockroom/stockroom/core/VersionLabel", "number", "()I"⟩ : MethodName)) hown (mvT hZ (hw _ (List.mem_of_getElem? (i := 26) rfl))) (mvT hZ (hw _ (List.mem_of_getElem? (i := 27) rfl))) (notFace_of_selects (args := #[]) (mvT hZ (hw _ (List.mem_of_getElem? (i := 29) rfl)))) (mvT hZ (hw _ (List.mem_of_getElem? (i := 29) rfl))) (mvT hZ (hw _ (List.mem_of_getElem? (i := 28) rfl))) (by decide) (backOf (W := 0) (rm5 l Z a0 hw [] r_4 (((1 : Int32) + ((p1 &&& (2147483647 : Int32)) % (999998 : Int32))) + (1 : Int32)) h4 n0 Z4 pq4_3) hZ (hw _ (List.mem_of_getElem? (i := 30) rfl)) (hw _ (List.mem_of_getElem? (i := 4) rfl)) (by decide) (by decide)) qa7 qc7 (g := (mkF m 25 #[.val (.int p1), .val (.int ((1 : Int32) + ((p1 &&& (2147483647 : Int32)) % (999998 : Int32)))), .val (.ref b1), .val (.ref r_4)] [(.ref r_4)])) rfl (by rw [hml]; rfl) (Steps.refl _) (argsL := []) (rest := []) (lenOf pd_5 rfl) rfl (by show 2 * 0 + _ ≤ _; exact Nat.le_of_eq rfl) (hb hby at_25) (fun _ _ => ⟨rfl, e4, (by decide : 2 + 0 ≤ _), (by decide : 2 + 0 ≤ _)⟩)
  dsimp only [Pt.U, Pt.locs, Pt.cells, Pt.slots] at X6 l6 y6 z6 st6 hQ6
  subst l6 y6 z6
  obtain ⟨rfl, Nq6, eq6⟩ := hQ6
  refine Goes.run st6 ?_
  have N6 := Fr.app N4 Nq6
  show Goes p e below s _ _ _ (T6.setTop (mkF m 28 #[.val (.int p1), .val (.int ((1 : Int32) + ((p1 &&& (2147483647 : Int32)) % (999998 : Int32)))), .val (.ref b1), .val (.ref r_4)] [(.int (((1 : Int32) + ((p1 &&& (2147483647 : Int32)) % (999998 : Int32))) + (1 : Int32)))]))
  refine Goes.pre (fun t kt => XS.iloadN X6.here hx rfl (hb hby at_28) rfl kt) ?_
  show Goes p e below s _ _ _ (T6.setTop (mkF m 29 #[.val (.int p1), .val (.int ((1 : Int32) + ((p1 &&& (2147483647 : Int32)) % (999998 : Int32)))), .val (.ref b1), .val (.ref r_4)] [(.int ((1 : Int32) + ((p1 &&& (2147483647 : Int32)) % (999998 : Int32)))), (.int (((1 : Int32) + ((p1 &&& (2147483647 : Int32)) % (999998 : Int32))) + (1 : Int32)))]))
  refine Goes.pre (fun t kt => XS.iconst X6.here hx rfl (hb hby at_29) kt) ?_
  show Goes p e below s _ _ _ (T6.setTop (mkF m 30 #[.val (.int p1), .val (.int ((1 : Int32) + ((p1 &&& (2147483647 : Int32)) % (999998 : Int32)))), .val (.ref b1), .val (.ref r_4)] [(.int (1 : Int32)), (.int ((1 : Int32) + ((p1 &&& (2147483647 : Int32)) % (999998 : Int32)))), (.int (((1 : Int32) + ((p1 &&& (2147483647 : Int32)) % (999998 : Int32))) + (1 : Int32)))]))
  refine Goes.pre (fun t kt => XS.iadd X6.here hx rfl (hb hby at_30) rfl kt) ?_
  show Goes p e below s _ _ _ (T6.setTop (mkF m 31 #[.val (.int p1), .val (.int ((1 : Int32) + ((p1 &&& (2147483647 : Int32)) % (999998 : Int32)))), .val (.ref b1), .val (.ref r_4)] [(.int (((1 : Int32) + ((p1 &&& (2147483647 : Int32)) % (999998 : Int32))) + (1 : Int32))), (.int (((1 : Int32) + ((p1 &&& (2147483647 : Int32)) % (999998 : Int32))) + (1 : Int32)))]))
  refine Goes.pre (fun t kt => XS.icmpNo X6.here hx rfl (hb hby at_31) rfl (Jvm.Free.XT.ii_ne_f (rfl)) kt) ?_
  show Goes p e below s _ _ _ (T6.setTop (mkF m 34 #[.val (.int p1), .val (.int ((1 : Int32) + ((p1 &&& (2147483647 : Int32)) % (999998 : Int32)))), .val (.ref b1), .val (.ref r_4)] []))
  refine Goes.pre (fun t kt => XS.aloadN X6.here hx rfl (hb hby at_34) rfl rfl kt) ?_
  show Goes p e below s _ _ _ (T6.setTop (mkF m 35 #[.val (.int p1), .val (.int ((1 : Int32) + ((p1 &&& (2147483647 : Int32)) % (999998 : Int32)))), .val (.ref b1), .val (.ref r_4)] [(.ref b1)]))
  have f8 : Fld Z h4 b1 "com/example/stockroom/stockroom/core/VersionLabel" "number" "I" (.int ((1 : Int32) + ((p1 &&& (2147483647 : Int32)) % (999998 : Int32)))) := (pq2_0.keep Kq4 nin0)
  have f11 : Exa Z h4 b1 "com/example/stockroom/stockroom/core/VersionLabel" := (f3.keep Kq4)
  obtain ⟨cq10, kq10, qa10, qb10, qc10⟩ := isOf hZ eq6 f11
  obtain ⟨_, _, ⟨T9, L9, k9, n9⟩, -, X9, ⟨Lc9, hQ9, l9, y9, z9⟩, st9⟩ := X6.virtualBack hx (y := (⟨"com/example/stockroom/stockroom/core/VersionLabel", "number", "()I"⟩ : MethodName)) (z := (⟨"com/example/stockroom/stockroom/core/VersionLabel", "number", "()I"⟩ : MethodName)) hown (mvT hZ (hw _ (List.mem_of_getElem? (i := 26) rfl))) (mvT hZ (hw _ (List.mem_of_getElem? (i := 27) rfl))) (notFace_of_selects (args := #[]) (mvT hZ (hw _ (List.mem_of_getElem? (i := 29) rfl)))) (mvT hZ (hw _ (List.mem_of_getElem? (i := 29) rfl))) (mvT hZ (hw _ (List.mem_of_getElem? (i := 28) rfl))) (by decide) (backOf (W := 0) (rm5 l Z a0 hw [] b1 ((1 : Int32) + ((p1 &&& (2147483647 : Int32)) % (999998 : Int32))) h4 n0 Z4 f8) hZ (hw _ (List.mem_of_getElem? (i := 30) rfl)) (hw _ (List.mem_of_getElem? (i := 4) rfl)) (by decide) (by decide)) qa10 qc10 (g := (mkF m 35 #[.val (.int p1), .val (.int ((1 : Int32) + ((p1 &&& (2147483647 : Int32)) % (999998 : Int32)))), .val (.ref b1), .val (.ref r_4)] [(.ref b1)])) rfl (by rw [hml]; rfl) (Steps.refl _) (argsL := []) (rest := []) (lenOf pd_5 rfl) rfl (by show 2 * 0 + _ ≤ _; exact Nat.le_of_eq rfl) (hb hby at_35) (fun _ _ => ⟨rfl, eq6, (by decide : 2 + 0 ≤ _), (by decide : 2 + 0 ≤ _)⟩)
  dsimp only [Pt.U, Pt.locs, Pt.cells, Pt.slots] at X9 l9 y9 z9 st9 hQ9
  subst l9 y9 z9
  obtain ⟨rfl, Nq9, eq9⟩ := hQ9
  refine Goes.run st9 ?_
  have N9 := Fr.app N6 Nq9
  show Goes p e below s _ _ _ (T9.setTop (mkF m 38 #[.val (.int p1), .val (.int ((1 : Int32) + ((p1 &&& (2147483647 : Int32)) % (999998 : Int32)))), .val (.ref b1), .val (.ref r_4)] [(.int ((1 : Int32) + ((p1 &&& (2147483647 : Int32)) % (999998 : Int32))))]))
  refine Goes.pre (fun t kt => XS.iloadN X9.here hx rfl (hb hby at_38) rfl kt) ?_
  show Goes p e below s _ _ _ (T9.setTop (mkF m 39 #[.val (.int p1), .val (.int ((1 : Int32) + ((p1 &&& (2147483647 : Int32)) % (999998 : Int32)))), .val (.ref b1), .val (.ref r_4)] [(.int ((1 : Int32) + ((p1 &&& (2147483647 : Int32)) % (999998 : Int32)))), (.int ((1 : Int32) + ((p1 &&& (2147483647 : Int32)) % (999998 : Int32))))]))
  refine Goes.pre (fun t kt => XS.icmpNo X9.here hx rfl (hb hby at_39) rfl (Jvm.Free.XT.ii_ne_f (rfl)) kt) ?_
  show Goes p e below s _ _ _ (T9.setTop (mkF m 42 #[.val (.int p1), .val (.int ((1 : Int32) + ((p1 &&& (2147483647 : Int32)) % (999998 : Int32)))), .val (.ref b1), .val (.ref r_4)] []))
  refine Goes.pre (fun t kt => XS.iconst X9.here hx rfl (hb hby at_42) kt) ?_
  show Goes p e below s _ _ _ (T9.setTop (mkF m 43 #[.val (.int p1), .val (.int ((1 : Int32) + ((p1 &&& (2147483647 : Int32)) % (999998 : Int32)))), .val (.ref b1), .val (.ref r_4)] [(.int (1 : Int32))]))
  refine Goes.pre (fun t kt => XS.goto X9.here hx rfl (pc0 := 43) (pc' := 47) rfl (hb hby at_43) (by decide) (by decide) kt) ?_
  show Goes p e below s _ _ _ (T9.setTop (mkF m 47 #[.val (.int p1), .val (.int ((1 : Int32) + ((p1 &&& (2147483647 : Int32)) % (999998 : Int32)))), .val (.ref b1), .val (.ref r_4)] [(.int (1 : Int32))]))
  refine Goes.ret X9 (some (.int (1 : Int32))) (fun h => by rw [Bd.returns] at h; cases h) (BodyLoose.notSynchronized Bd) (by decide) (by decide) (fun fs hr => retN X9 hx (t := .boolean) Bd.returns (by simp) (hb hby at_47) hr) ?_
  show Q_rm0 Z p1 h0 n0 _ T9.heap _
  rw [eq9]
  exact ⟨rfl, N9⟩
set_option maxRecDepth 65536 in
set_option maxHeartbeats 40000000 in
theorem comes_1 {Post : Tables → Env → Array Value → State → Outcome → State → Prop} (hpost : ∀ tb e args s v u, (limb_1_1.after args s (.returned v) u = true ∧ limb_1_2.after args s (.returned v) u = true ∧ True) → FrameEnd s (.returned v) u (Jvm.fieldLocs frame_1_writes args s ++ Jvm.arrayLocs frame_1_arrays args s ++ Jvm.staticLocs frame_1_statics s) 16 128 → Post tb e args s (.returned v) u) :
    ArmFor flags0 classFile x code maxLocals ret World_1 tables_1 room_1 Calls_1 rest_1 Pre_1 Post := by
  intro l hfl _ _ p e ha hc hk s m args below hf hA hF happ hP
  obtain ⟨hcalls, hrest, hpre⟩ := hP
  obtain ⟨-, -, -, hnamed, -, -, -, hat⟩ := (Spec.applies_iff hf).mp happ
  obtain ⟨hg, hn⟩ := and_e (Cond.before_iff.mp (show (Jvm.Cond.and given_1 narrow_1).before args s = true from hpre))
  obtain ⟨gv1, gv2⟩ := and_e hg
  obtain ⟨w0, rfl⟩ : ∃ w0 : Value, args = #[w0] := by
    have hs : args.size = 1 := by simpa [Cond.value, given_1] using gv1
    obtain ⟨L⟩ := args
    match L, hs with
    | [w0], _ => exact ⟨w0, rfl⟩
  have hw := fun d (hd : d ∈ tables_1) => atoms_spec (ws := Jvm.Cond.code x code maxLocals ret :: tables_1) hat d (List.mem_cons_of_mem _ hd)
  have hfit : Fit s := fun {y c} hc i hi => by
    obtain ⟨ha, rfl⟩ := Array.getElem?_eq_some_iff.mp hc
    have q := List.all_eq_true.mp ((Array.all_eq_true_iff_forall_mem.mp hF) _ (Array.getElem_mem ha)) i (List.mem_range.mpr hi)
    simpa [Array.getElem?_eq_getElem hi] using q
  obtain ⟨i0, ei0⟩ := is_v gv2
  obtain rfl : w0 = (.int i0) := Option.some.inj ei0
  obtain ⟨n, o, h1, h2, h3, _, L, rfl, ⟨rfl, N⟩, hq⟩ := rm0 l s _ hw tables_1 i0  s.heap s.heap.size (Nat.le_refl _)  p e ha hc hk s m _ below hf ((Spec.applies_iff_loose hf).mp happ).1 ⟨rfl, State.Warmed39.refl s, rfl⟩ trivial
  refine ⟨n, _, h1, h2, h3, hpost _ _ _ _ _ _ ⟨Cond.after_iff.mpr rfl, Cond.after_iff.mpr (eq_i res_at (Term.int_eval (1)) rfl), trivial⟩ ⟨hq.1, hq.2.1, (hq.2.2.sift fun y hy => Or.inr (N y hy)).mono (by decide) (by decide)⟩⟩
theorem main_1_1 : Claimed_1_1 := comes_1 fun _ _ _ _ _ _ h hF => ⟨h.1, hF⟩
theorem main_1_2 : Claimed_1_2 := comes_1 fun _ _ _ _ _ _ h hF => ⟨h.2.1, hF⟩
end Jvm.Pilot.@@N@@
namespace Jvm.Pilot.@@N@@
open Jvm Jvm.ClassFile Sem Op Lib Jvm.Free Jvm.Stand Jvm.Pilot.@@N@@.Jvm.D
/-! MADE BY PROGRAM (witnessworld.py) out of the Statement's table words and the real class files: 8 classes; the members and pool entries that the words name. The judged class is class 1, her method 1. -/
namespace start1
open Jvm.ClassFile
def u (s : String) : CpInfo := .utf8 (stringToUtf16 s)
/-- a pool by its gaps: so many unusable entries, then the entry; so many at the end -/
def gap : Nat → List CpInfo → List CpInfo
  | 0, r => r
  | n + 1, r => .unusable :: gap n r
def poolList (es : List (Nat × CpInfo)) (last : Nat) : List CpInfo := es.foldr (fun e r => gap e.1 (e.2 :: r)) (gap last [])
def pool (es : List (Nat × CpInfo)) (last : Nat) : Array CpInfo := ⟨poolList es last⟩
def fileOf (pool : Array CpInfo) (this : Nat) (attrs : Array Attribute := #[]) (ms : Array MethodInfo := #[]) (fl : Nat := 33) (sup : Nat := 0) (ifs : Array Nat := #[]) (fds : Array FieldInfo := #[]) : ClassFile where
  minorVersion := 0
  majorVersion := 65
  constantPool := pool
  accessFlags := fl
  thisClass := this
  superClass := sup
  interfaces := ifs
  fields := fds
  methods := ms
  attributes := attrs
def plain (name : String) (sup : Option ClassId) : Class where
  name := name
  kind := .ordinary
  loader := none
  accessFlags := 33
  super := sup
  interfaces := #[]
  cf := none
  fields := #[]
  methods := #[]
  instanceTypes := #[]
  staticTypes := #[]
  resolved := #[]
  callSites := []
  init := .initialized
  statics := none
  mirror := none

def pool0 : Array CpInfo := pool [(5, u "<init>"), (0, u "()V"), (1, .class_ 10), (1, u "java/lang/Object")] 113

def k0c0 : Code := { maxStack := 0, maxLocals := 1, code := object_method_1_code, exceptionTable := #[], attributes := #[] }
def k0m0 : Method := { name := "<init>", desc := "()V", sig := { parameters := [], returnType := none }, accessFlags := 1, code := some k0c0 }
/-- java/lang/Object -/
def k0 : Class := { plain "java/lang/Object" none with
  accessFlags := 33
  interfaces := #[]
  cf := some (fileOf pool0 8 #[] #[{ accessFlags := 1, nameIndex := 5, descriptorIndex := 6, attributes := #[] }] 33 0 #[] #[])
  fields := #[]
  methods := #[k0m0]
  instanceTypes := #[]
  staticTypes := #[]
  resolved := Array.replicate 124 none
  statics := none }

def pool1 : Array CpInfo := pool [(2, .class_ 4), (1, u "java/lang/Object"), (0, u "<init>"), (0, u "()V"), (0, .integer 2147483647), (0, .integer 999998), (0, .class_ 10), (0, u "com/example/stockroom/stockroom/core/VersionLabel"), (0, .methodref 9 12), (0, .nameAndType 5 13), (0, u "(I)V"), (0, .methodref 9 15), (0, .nameAndType 16 17), (0, u "next"), (0, u "()Lcom/example/stockroom/stockroom/core/VersionLabel;"), (0, .methodref 9 19), (0, .nameAndType 20 21), (0, u "number"), (0, u "()I"), (0, .class_ 23), (0, u "com/example/stockroom/stockroom/core/VersionLabelNextPinLaw"), (2, u "law"), (0, u "(I)Z")] 3

def k1m0 : Method := { name := "<init>", desc := "()V", sig := { parameters := [], returnType := none }, accessFlags := 1, code := none }
def k1c1 : Code := { maxStack := 3, maxLocals := 4, code := code, exceptionTable := #[], attributes := #[] }
def k1m1 : Method := { name := "law", desc := "(I)Z", sig := { parameters := [.int], returnType := some .boolean }, accessFlags := 9, code := some k1c1 }
/-- com/example/stockroom/stockroom/core/VersionLabelNextPinLaw -/
def k1 : Class := { plain "com/example/stockroom/stockroom/core/VersionLabelNextPinLaw" (some 0) with
  accessFlags := 49
  interfaces := #[]
  cf := some (fileOf pool1 22 #[] #[{ accessFlags := 1, nameIndex := 5, descriptorIndex := 6, attributes := #[] }, { accessFlags := 9, nameIndex := 26, descriptorIndex := 27, attributes := #[] }] 49 2 #[] #[])
  fields := #[]
  methods := #[k1m0, k1m1]
  instanceTypes := #[]
  staticTypes := #[]
  resolved := Array.replicate 31 none
  statics := none }

def pool2 : Array CpInfo := pool [(1, .methodref 2 3), (0, .class_ 4), (0, .nameAndType 5 6), (0, u "java/lang/Object"), (0, u "<init>"), (0, u "()V"), (0, .class_ 8), (0, u "java/lang/Record")] 13

def k2c0 : Code := { maxStack := 1, maxLocals := 1, code := jdk_30_method_1_code, exceptionTable := #[], attributes := #[] }
def k2m0 : Method := { name := "<init>", desc := "()V", sig := { parameters := [], returnType := none }, accessFlags := 4, code := some k2c0 }
/-- java/lang/Record -/
def k2 : Class := { plain "java/lang/Record" (some 0) with
  accessFlags := 1057
  interfaces := #[]
  cf := some (fileOf pool2 7 #[] #[{ accessFlags := 4, nameIndex := 5, descriptorIndex := 6, attributes := #[] }] 1057 2 #[] #[])
  fields := #[]
  methods := #[k2m0]
  instanceTypes := #[]
  staticTypes := #[]
  resolved := Array.replicate 22 none
  statics := none }

def pool3 : Array CpInfo := pool [(1, .methodref 2 3), (0, .class_ 4), (0, .nameAndType 5 6), (0, u "java/lang/Record"), (0, u "<init>"), (0, u "()V"), (0, .class_ 8), (0, u "com/example/stockroom/stockroom/core/VersionLabel"), (0, .integer 999999), (9, .fieldref 7 20), (0, .nameAndType 21 22), (0, u "number"), (0, u "I"), (0, .methodref 7 24), (0, .nameAndType 5 25), (0, u "(I)V"), (5, u "()I"), (50, u "MAX_NUMBER"), (1, u "PREFIX"), (0, u "Ljava/lang/String;"), (0, u "DIGITS"), (6, u "()Lcom/example/stockroom/stockroom/core/VersionLabel;"), (2, u "next")] 32

def k3c0 : Code := { maxStack := 3, maxLocals := 2, code := prog_20_method_1_code, exceptionTable := #[], attributes := #[] }
def k3m0 : Method := { name := "<init>", desc := "(I)V", sig := { parameters := [.int], returnType := none }, accessFlags := 1, code := some k3c0 }
def k3c1 : Code := { maxStack := 4, maxLocals := 1, code := prog_20_method_5_code, exceptionTable := #[], attributes := #[] }
def k3m1 : Method := { name := "next", desc := "()Lcom/example/stockroom/stockroom/core/VersionLabel;", sig := { parameters := [], returnType := some (.object "com/example/stockroom/stockroom/core/VersionLabel") }, accessFlags := 1, code := some k3c1 }
def k3c2 : Code := { maxStack := 1, maxLocals := 1, code := prog_20_method_9_code, exceptionTable := #[], attributes := #[] }
def k3m2 : Method := { name := "number", desc := "()I", sig := { parameters := [], returnType := some .int }, accessFlags := 1, code := some k3c2 }
/-- com/example/stockroom/stockroom/core/VersionLabel -/
def k3 : Class := { plain "com/example/stockroom/stockroom/core/VersionLabel" (some 2) with
  accessFlags := 49
  interfaces := #[]
  cf := some (fileOf pool3 7 #[] #[{ accessFlags := 1, nameIndex := 5, descriptorIndex := 25, attributes := #[] }, { accessFlags := 1, nameIndex := 96, descriptorIndex := 93, attributes := #[] }, { accessFlags := 1, nameIndex := 21, descriptorIndex := 31, attributes := #[] }] 49 2 #[] #[{ accessFlags := 18, nameIndex := 21, descriptorIndex := 22, attributes := #[] }, { accessFlags := 25, nameIndex := 82, descriptorIndex := 22, attributes := #[] }, { accessFlags := 26, nameIndex := 84, descriptorIndex := 85, attributes := #[] }, { accessFlags := 26, nameIndex := 86, descriptorIndex := 22, attributes := #[] }])
  fields := #[{ name := "number", type := .int, accessFlags := 18, slot := 0, constantValue := 0 }, { name := "MAX_NUMBER", type := .int, accessFlags := 25, slot := 0, constantValue := 0 }, { name := "PREFIX", type := (.object "java/lang/String"), accessFlags := 26, slot := 1, constantValue := 0 }, { name := "DIGITS", type := .int, accessFlags := 26, slot := 2, constantValue := 0 }]
  methods := #[k3m0, k3m1, k3m2]
  instanceTypes := #[.int]
  staticTypes := #[.int, (.object "java/lang/String"), .int]
  resolved := Array.replicate 129 none
  statics := none }

def pool4 : Array CpInfo := pool [(1, u "java/lang/Cloneable"), (0, .class_ 1), (0, u "java/lang/Object"), (0, .class_ 3)] 3

/-- java/lang/Cloneable -/
def k4 : Class := { plain "java/lang/Cloneable" (some 0) with
  accessFlags := 1537
  interfaces := #[]
  cf := some (fileOf pool4 2 #[] #[] 1537 4 #[] #[])
  fields := #[]
  methods := #[]
  instanceTypes := #[]
  staticTypes := #[]
  resolved := Array.replicate 8 none
  statics := none }

def pool5 : Array CpInfo := pool [(1, u "java/io/Serializable"), (0, .class_ 1), (0, u "java/lang/Object"), (0, .class_ 3)] 3

/-- java/io/Serializable -/
def k5 : Class := { plain "java/io/Serializable" (some 0) with
  accessFlags := 1537
  interfaces := #[]
  cf := some (fileOf pool5 2 #[] #[] 1537 4 #[] #[])
  fields := #[]
  methods := #[]
  instanceTypes := #[]
  staticTypes := #[]
  resolved := Array.replicate 8 none
  statics := none }

/-- the primitive byte -/
def k6 : Class := { plain "byte" none with kind := .primitive 'B', accessFlags := 0x411 }
/-- [B -/
def k7 : Class := { plain "[B" (some 0) with kind := .array 6 .byte, interfaces := #[4, 5], accessFlags := 1041 }

def heap : Heap := #[]
def classes : Array Class := #[k0, k1, k2, k3, k4, k5, k6, k7]
def interned : List (Array UInt16 × Addr) := []
def slotsUsed : Nat := 0
def theMethod : MethodId := ⟨1, 1⟩
def args0 : Array Value := #[.int 5]
def aboutOver (below : List Frame) : State where
  vm := { classes := classes, interned := interned.toArray }
  heap := heap
  slotsUsed := slotsUsed
  threads := #[{ frames := .invoking theMethod args0 :: below }]
def below0 : List Frame := [.native { method := ⟨0, 0⟩, args := #[] }]
def about1 : State := aboutOver below0
def p0 : Program := .bare "" "" ""
def e0 : Env := launch0.env 0 0 0
theorem w_frames : about1.frames = Frame.invoking theMethod args0 :: below0 := rfl
set_option maxRecDepth 65536 in
theorem w_args : argsFit about1.vm theMethod args0 = true := by decide +kernel
set_option maxRecDepth 65536 in
theorem w_heap : heapFits about1 = true := by decide +kernel
set_option maxRecDepth 65536 in
theorem w_runnable : about1.curStatus? = some .runnable := by decide +kernel
set_option maxRecDepth 65536 in
theorem w_alone : about1.alone = true := by decide +kernel
set_option maxRecDepth 65536 in
theorem w_named : about1.methodNamed? x = some theMethod := by decide +kernel
set_option maxRecDepth 65536 in
theorem w_hears : about1.hears theMethod below0 = true := by decide +kernel
set_option maxRecDepth 65536 in
theorem w_ripe : about1.ripe theMethod args0 below0 = true := by decide +kernel
theorem w_running : about1.status = .running := rfl
set_option maxRecDepth 65536 in
theorem w_room : about1.hasRoom e0.platform room_1 = true :=
  launch0.hasRoom_least _ room_1 (by decide +kernel) (by decide +kernel) (by decide +kernel) (by decide +kernel) (by decide +kernel) (by decide +kernel)
theorem allAtoms_all (ts : List Jvm.Cond) (a : Array Jvm.Value) (st : Jvm.State) : (allAtoms ts).before a st = ts.all (fun c => c.before a st) := by
  induction ts with
  | nil => rfl
  | cons c t ih =>
    show (Jvm.Cond.and c (allAtoms t)).before a st = _
    rw [Jvm.Cond.before_and, ih, List.all_cons]
def words1 : List Jvm.Cond := Jvm.Cond.code x code maxLocals ret :: tables_1
/-- a 'code' word, met by the world's own term for the bytes: nothing is compared byte by byte -/
theorem code_word {y : MethodName} {bytes : ByteArray} {mx : Nat} {rt : Option FieldType} {a : Array Value} {s : State} {m : MethodId} {meth : Method} {c : Code} (h1 : s.methodNamed? y = some m) (h2 : s.vm.method? m = some meth) (h3 : meth.code = some c) (h4 : c.code = bytes)
    (h5 : (c.maxLocals == mx && c.exceptionTable.isEmpty && decide (c.maxStack ≤ mostOperands) && decide (meth.sig.returnType = rt) && !meth.locks && decide (parseMethodDescriptor y.desc = some meth.sig)) = true) : (Jvm.Cond.code y bytes mx rt).before a s = true := by
  simp only [Bool.and_eq_true, beq_iff_eq, Bool.not_eq_true', decide_eq_true_eq] at h5
  obtain ⟨⟨⟨⟨⟨g1, g2⟩, g3⟩, g4⟩, g5⟩, g6⟩ := h5
  simp [Cond.before, Cond.holds, Cond.value, h1, h2, h3, h4, g1, g2, g3, g4, g5, g6]
def isCode : Jvm.Cond → Bool
  | .code _ _ _ _ => true
  | _ => false
theorem all_split {L : List Jvm.Cond} {P : Jvm.Cond → Bool} (h1 : L.all (fun c => isCode c || P c) = true) (h2 : ∀ c ∈ L.filter isCode, P c = true) : L.all P = true := by
  refine List.all_eq_true.mpr fun c hc => ?_
  have h := List.all_eq_true.mp h1 c hc
  rcases Bool.eq_false_or_eq_true (isCode c) with hi | hi
  · exact h2 c (List.mem_filter.mpr ⟨hc, hi⟩)
  · simpa [hi] using h
set_option maxRecDepth 65536 in
theorem w_c0 : (Jvm.Cond.code x code maxLocals ret).before args0 about1 = true := code_word (m := ⟨1, 1⟩) (meth := k1m1) (c := k1c1) (by decide +kernel) rfl rfl rfl (by decide +kernel)
set_option maxRecDepth 65536 in
theorem w_c1 : (Jvm.Cond.code ({ cls := "com/example/stockroom/stockroom/core/VersionLabel", name := "<init>", desc := "(I)V" } : Jvm.MethodName) prog_20_method_1_code (2 : Nat) (Option.none : Option Jvm.ClassFile.FieldType)).before args0 about1 = true := code_word (m := ⟨3, 0⟩) (meth := k3m0) (c := k3c0) (by decide +kernel) rfl rfl rfl (by decide +kernel)
set_option maxRecDepth 65536 in
theorem w_c2 : (Jvm.Cond.code ({ cls := "java/lang/Record", name := "<init>", desc := "()V" } : Jvm.MethodName) jdk_30_method_1_code (1 : Nat) (Option.none : Option Jvm.ClassFile.FieldType)).before args0 about1 = true := code_word (m := ⟨2, 0⟩) (meth := k2m0) (c := k2c0) (by decide +kernel) rfl rfl rfl (by decide +kernel)
set_option maxRecDepth 65536 in
theorem w_c3 : (Jvm.Cond.code ({ cls := "java/lang/Object", name := "<init>", desc := "()V" } : Jvm.MethodName) object_method_1_code (1 : Nat) (Option.none : Option Jvm.ClassFile.FieldType)).before args0 about1 = true := code_word (m := ⟨0, 0⟩) (meth := k0m0) (c := k0c0) (by decide +kernel) rfl rfl rfl (by decide +kernel)
set_option maxRecDepth 65536 in
theorem w_c4 : (Jvm.Cond.code ({ cls := "com/example/stockroom/stockroom/core/VersionLabel", name := "next", desc := "()Lcom/example/stockroom/stockroom/core/VersionLabel;" } : Jvm.MethodName) prog_20_method_5_code (1 : Nat) (Option.some (Jvm.ClassFile.FieldType.object "com/example/stockroom/stockroom/core/VersionLabel"))).before args0 about1 = true := code_word (m := ⟨3, 1⟩) (meth := k3m1) (c := k3c1) (by decide +kernel) rfl rfl rfl (by decide +kernel)
set_option maxRecDepth 65536 in
theorem w_c5 : (Jvm.Cond.code ({ cls := "com/example/stockroom/stockroom/core/VersionLabel", name := "number", desc := "()I" } : Jvm.MethodName) prog_20_method_9_code (1 : Nat) (Option.some Jvm.ClassFile.FieldType.int)).before args0 about1 = true := code_word (m := ⟨3, 2⟩) (meth := k3m2) (c := k3c2) (by decide +kernel) rfl rfl rfl (by decide +kernel)
def codes1 : List Jvm.Cond := [Jvm.Cond.code x code maxLocals ret, Jvm.Cond.code ({ cls := "com/example/stockroom/stockroom/core/VersionLabel", name := "<init>", desc := "(I)V" } : Jvm.MethodName) prog_20_method_1_code (2 : Nat) (Option.none : Option Jvm.ClassFile.FieldType), Jvm.Cond.code ({ cls := "java/lang/Record", name := "<init>", desc := "()V" } : Jvm.MethodName) jdk_30_method_1_code (1 : Nat) (Option.none : Option Jvm.ClassFile.FieldType), Jvm.Cond.code ({ cls := "java/lang/Object", name := "<init>", desc := "()V" } : Jvm.MethodName) object_method_1_code (1 : Nat) (Option.none : Option Jvm.ClassFile.FieldType), Jvm.Cond.code ({ cls := "com/example/stockroom/stockroom/core/VersionLabel", name := "next", desc := "()Lcom/example/stockroom/stockroom/core/VersionLabel;" } : Jvm.MethodName) prog_20_method_5_code (1 : Nat) (Option.some (Jvm.ClassFile.FieldType.object "com/example/stockroom/stockroom/core/VersionLabel")), Jvm.Cond.code ({ cls := "com/example/stockroom/stockroom/core/VersionLabel", name := "number", desc := "()I" } : Jvm.MethodName) prog_20_method_9_code (1 : Nat) (Option.some Jvm.ClassFile.FieldType.int)]
set_option maxRecDepth 65536 in
theorem codes_eq : words1.filter isCode = codes1 := rfl
theorem w_codes : ∀ c ∈ words1.filter isCode, c.before args0 about1 = true := by
  rw [codes_eq]
  intro c hc
  simp only [codes1, List.mem_cons, List.not_mem_nil, or_false] at hc
  rcases hc with rfl | rfl | rfl | rfl | rfl | rfl
  · exact w_c0
  · exact w_c1
  · exact w_c2
  · exact w_c3
  · exact w_c4
  · exact w_c5
set_option maxRecDepth 65536 in
theorem w_t1 : (words1.take 24).all (fun c => isCode c || c.before args0 about1) = true := by decide +kernel
set_option maxRecDepth 65536 in
theorem w_t2 : (words1.drop 24).all (fun c => isCode c || c.before args0 about1) = true := by decide +kernel
theorem w_tables : (allAtoms (Jvm.Cond.code x code maxLocals ret :: tables_1)).before args0 about1 = true := by
  rw [allAtoms_all]
  show words1.all (fun c => c.before args0 about1) = true
  refine all_split ?_ w_codes
  rw [← List.take_append_drop 24 words1, List.all_append, w_t1, w_t2]
  rfl
set_option maxRecDepth 65536 in
theorem w_case : (Jvm.Cond.and given_1 narrow_1).before args0 about1 = true := by decide +kernel
theorem w_applies : (headSpec (Jvm.Cond.code x code maxLocals ret :: tables_1) room_1).applies x e0.platform about1 = true :=
  (Spec.applies_iff w_frames).mpr ⟨w_running, w_runnable, w_alone, w_named, w_hears, w_ripe, w_room, w_tables⟩
theorem atStart : AtStart classFile x code maxLocals ret World_1 tables_1 room_1 Calls_1 rest_1 Pre_1 launch0 p0 e0 about1 theMethod args0 below0 :=
  ⟨lists_1, trivial, launch0.admits_env _ _ _, launch0.least_env, fairChoices_fair.cas, fairChoices_fair.clock, w_frames, w_args, w_heap, w_applies, trivial, trivial, w_case⟩
end start1
theorem witness_1 : WitnessClaimed_1 := ⟨start1.p0, start1.e0, start1.about1, start1.theMethod, start1.args0, start1.below0, start1.atStart⟩
end Jvm.Pilot.@@N@@
