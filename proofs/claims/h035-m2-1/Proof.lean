import JvmDerived
import JvmDerived.Pilot.@@N@@Statement
import JvmDerived.Pilot.@@N@@Code
set_option linter.unusedVariables false
set_option linter.unusedSimpArgs false
namespace Jvm.Pilot.@@N@@
open Jvm Jvm.ClassFile Sem Op Lib Jvm.Free Jvm.Stand Jvm.LawKit Jvm.RoadKit Bundle Jvm.Pilot.@@N@@.Jvm.D
/-- from A the run comes to an end of the body that says P -/
def Goes (p : Program) (e : Env) (below : List Frame) (s : State) (P : Option Value → Heap → List Loc → Prop) (k n : Nat) (A : State) : Prop :=
  ∃ s₂ o, Steps p.tables e below A s₂ ∧ s₂.status = .running ∧ Ended s₂ below o ∧ ∃ v L, o = .returned v ∧ P v s₂.heap L ∧ FrameEnd s o s₂ L k n
section OwnGoes
variable {p : Program} {l : Launch} {e : Env} {R : Room} {s : State} {m : MethodId} {args : Array Value} {below : List Frame} {meth : Method} {c : Code} {T : State} {locs : List Loc} {cells slots : Nat} {P : Option Value → Heap → List Loc → Prop} {k n : Nat} {A B : State}
theorem Goes.pre (h : ∀ t, Steps p.tables e below B t → Steps p.tables e below A t) (g : Goes p e below s P k n B) : Goes p e below s P k n A := by
  obtain ⟨t, o, h1, r⟩ := g
  exact ⟨t, o, h _ h1, r⟩
theorem Goes.run (h : Steps p.tables e below A B) (g : Goes p e below s P k n B) : Goes p e below s P k n A := g.pre fun _ q => h.trans q
theorem Goes.ret (X : Stand p l e R s m args below meth c T locs cells slots) (v : Option Value) (hv : meth.sig.returnType = none → v = none) (hlocks : meth.locks = false) (hk : cells ≤ k) (hn : slots ≤ n) {f : JFrame}
    (st : ∀ fs : List Frame, (∀ (f : JFrame) (acts : List Action), f.method = m → f.locked = none → f.entered = [] → (doReturn e (T.setTop f) acts v).1 = T.setFrames fs) → Steps p.tables e below (T.setTop f) (T.setFrames fs))
    (hP : P v T.heap locs) : Goes p e below s P k n (T.setTop f) := by
  obtain ⟨fs, hr, hrun, hended, hW, hsame⟩ := X.leave (v := v) hv hlocks
  exact ⟨_, _, st fs hr, hrun, hended, _, _, rfl, hP, ⟨_, rfl⟩, hW, hsame.mono hk hn⟩
end OwnGoes

theorem own_and15 (x : Int32) : 0 ≤ (x &&& (15 : Int32)).toInt ∧ (x &&& (15 : Int32)).toInt ≤ 15 := c_and x 15 (by decide)
theorem own_abc {a b c : Int32} (ha : 0 ≤ a.toInt ∧ a.toInt ≤ 15) (hb : 0 ≤ b.toInt ∧ b.toInt ≤ 15) (hc : 0 ≤ c.toInt ∧ c.toInt ≤ 15) :
    ¬ a < (0 : Int32) ∧ ¬ (a + b) < a ∧ ¬ ((a + b) + c) < (a + b) ∧ ¬ ((a + b) + c) < 0 ∧ ((a + b) + c).toNatClampNeg ≤ 45 := by
  have h1 := c_iadd a b
  have h2 := c_iadd (a + b) c
  have h3 := rng32 (a + b)
  have h4 := rng32 (a + b + c)
  have h5 : (0 : Int32).toInt = 0 := by decide
  have h6 : ((a + b + c).toNatClampNeg : Int) = (a + b + c).toInt := by
    rw [Int32.toNatClampNeg]; omega
  simp only [Int32.lt_iff_toInt_lt, h5]
  omega
theorem own_s0 (a : Int32) : a - (0 : Int32) = a := by grind
theorem own_s1 (a b : Int32) : (a + b) - a = b := by grind
theorem d2_0 : decode jdk_30_method_1_code 0 = .ok (.aload_n 0, 1) := by decide +kernel
theorem d2_1 : decode jdk_30_method_1_code 1 = .ok (.invokespecial 1, 3) := by decide +kernel
theorem d2_4 : decode jdk_30_method_1_code 4 = .ok (.return_, 1) := by decide +kernel
theorem pn_0 : plainName "java/lang/Record" = true := by first | (simp [plainName, overriddenIn]; done) | decide +kernel
def Q_rm2 (Z : State) (a1 : Addr) (h0 : Heap) (n0 : Nat) (v : Option Value) (h : Heap) (L : List Loc) : Prop := v = none ∧ Fr n0 L ∧ h = h0
theorem ef_rm2 (m : MethodId) (a1 : Addr) : entryFrame m #[(.ref a1)] 1 = mkF m 0 #[.val (.ref a1)] [] := by first | (simp [entryFrame, mkF, argsToLocals, Value.category]; done) | rfl
set_option maxRecDepth 65536 in
set_option maxHeartbeats 40000000 in
theorem rm2 (l : Launch) (Z : State) (a0 : Array Value) (hw : ∀ d ∈ tables_1, d.before a0 Z = true) (ws : List Jvm.Cond) (a1 : Addr) (h0 : Heap) (n0 : Nat) (Z0 : n0 ≤ h0.size) :
    MetFree l (⟨"java/lang/Record", "<init>", "()V"⟩ : MethodName) (head1 (Jvm.Cond.code (⟨"java/lang/Record", "<init>", "()V"⟩ : MethodName) jdk_30_method_1_code 1 none :: ws) ({ frames := 1, cells := 0, slots := 0, locals := 12 } : Room)) (fun a U => a = #[(.ref a1)] ∧ Z.Warmed39 U.vm ∧ U.heap = h0) (fun _ _ _ _ _ => True) (fun _ U o U' => ∃ v L, o = .returned v ∧ Q_rm2 Z a1 h0 n0 v U'.heap L ∧ FrameEnd U o U' L ({ frames := 1, cells := 0, slots := 0, locals := 12 } : Room).cells ({ frames := 1, cells := 0, slots := 0, locals := 12 } : Room).slots) := by
  refine MetFree.of_bodySF (plainFor_of_name pn_0) hisR ?_
  intro p e s m args below meth c s₁ Bd hml0 hP hK
  obtain ⟨rfl, hZ, hh⟩ := hP
  have hx := Bd.exec
  have hby := Bd.bytes
  have hml : c.maxLocals = 1 := hml0
  have hown : s.vm.findClass "java/lang/Record" = some m.cls := findClass_of_methodNamed Bd.named
  have hnm := (name_of_methodNamed Bd.named Bd.method).1
  have X0 : Stand p l e ({ frames := 1, cells := 0, slots := 0, locals := 12 } : Room) s m #[(.ref a1)] below meth c s₁ [] 0 0 := Stand.of_body Bd
  have e0 : s₁.heap = h0 := by rw [← hh, Bd.state]; rfl
  have N0 := Fr.nil n0
  show Goes p e below s (Q_rm2 Z a1 h0 n0) ({ frames := 1, cells := 0, slots := 0, locals := 12 } : Room).cells ({ frames := 1, cells := 0, slots := 0, locals := 12 } : Room).slots (s₁.setTop (entryFrame m #[(.ref a1)] 1))
  refine Goes.pre (fun t kt => castTop (ef_rm2 m a1) kt) ?_
  show Goes p e below s _ _ _ (s₁.setTop (mkF m 0 #[.val (.ref a1)] []))
  refine Goes.pre (fun t kt => XS.aloadN X0.here hx rfl (hb hby d2_0) rfl rfl kt) ?_
  show Goes p e below s _ _ _ (s₁.setTop (mkF m 1 #[.val (.ref a1)] [(.ref a1)]))
  obtain ⟨T1, X1, e1, st1⟩ := initO X0 hx hZ hown (hw _ (List.mem_of_getElem? (i := 13) rfl)) (hw _ (List.mem_of_getElem? (i := 14) rfl)) (hw _ (List.mem_of_getElem? (i := 15) rfl)) e0 (g := (mkF m 1 #[.val (.ref a1)] [(.ref a1)])) rfl (by rw [hml]; rfl) rfl (hb hby d2_1) (by decide) (W := 0) (by show 2 * 0 + _ ≤ _; exact Nat.le_of_eq rfl) (by decide)
  refine Goes.pre st1 ?_
  show Goes p e below s _ _ _ (T1.setTop (mkF m 4 #[.val (.ref a1)] []))
  refine Goes.ret X1 none (fun _ => rfl) (BodyLoose.notSynchronized Bd) (by decide) (by decide) (fun fs hr => X1.returnOut hx Bd.returns (hb hby d2_4) hr) ?_
  show Q_rm2 Z a1 h0 n0 _ T1.heap _
  rw [e1]
  exact ⟨rfl, N0, rfl⟩
theorem d1_0 : decode prog_11_method_1_code 0 = .ok (.aload_n 0, 1) := by decide +kernel
theorem d1_1 : decode prog_11_method_1_code 1 = .ok (.invokespecial 1, 3) := by decide +kernel
theorem pd_1 : parseMethodDescriptor "()V" = some ⟨[], none⟩ := by decide +kernel
theorem d1_4 : decode prog_11_method_1_code 4 = .ok (.aload_n 2, 1) := by decide +kernel
theorem d1_5 : decode prog_11_method_1_code 5 = .ok (.arraylength, 1) := by decide +kernel
theorem d1_6 : decode prog_11_method_1_code 6 = .ok (.ifCond .eq 20, 3) := by decide +kernel
theorem d1_9 : decode prog_11_method_1_code 9 = .ok (.aload_n 2, 1) := by decide +kernel
theorem d1_10 : decode prog_11_method_1_code 10 = .ok (.iconst 0, 1) := by decide +kernel
theorem d1_11 : decode prog_11_method_1_code 11 = .ok (.iaload, 1) := by decide +kernel
theorem d1_12 : decode prog_11_method_1_code 12 = .ok (.ifCond .ne 14, 3) := by decide +kernel
theorem d1_15 : decode prog_11_method_1_code 15 = .ok (.aload_n 2, 1) := by decide +kernel
theorem d1_16 : decode prog_11_method_1_code 16 = .ok (.aload_n 2, 1) := by decide +kernel
theorem d1_17 : decode prog_11_method_1_code 17 = .ok (.arraylength, 1) := by decide +kernel
theorem d1_18 : decode prog_11_method_1_code 18 = .ok (.iconst 1, 1) := by decide +kernel
theorem d1_19 : decode prog_11_method_1_code 19 = .ok (.isub, 1) := by decide +kernel
theorem d1_20 : decode prog_11_method_1_code 20 = .ok (.iaload, 1) := by decide +kernel
theorem d1_21 : decode prog_11_method_1_code 21 = .ok (.aload_n 1, 1) := by decide +kernel
theorem d1_22 : decode prog_11_method_1_code 22 = .ok (.arraylength, 1) := by decide +kernel
theorem d1_23 : decode prog_11_method_1_code 23 = .ok (.if_icmp .eq 13, 3) := by decide +kernel
theorem d1_36 : decode prog_11_method_1_code 36 = .ok (.iconst 1, 1) := by decide +kernel
theorem d1_37 : decode prog_11_method_1_code 37 = .ok (.istore_n 3, 1) := by decide +kernel
theorem d1_38 : decode prog_11_method_1_code 38 = .ok (.iload_n 3, 1) := by decide +kernel
theorem d1_39 : decode prog_11_method_1_code 39 = .ok (.aload_n 2, 1) := by decide +kernel
theorem d1_40 : decode prog_11_method_1_code 40 = .ok (.arraylength, 1) := by decide +kernel
theorem d1_41 : decode prog_11_method_1_code 41 = .ok (.if_icmp .ge 36, 3) := by decide +kernel
theorem d1_44 : decode prog_11_method_1_code 44 = .ok (.aload_n 2, 1) := by decide +kernel
theorem d1_45 : decode prog_11_method_1_code 45 = .ok (.iload_n 3, 1) := by decide +kernel
theorem d1_46 : decode prog_11_method_1_code 46 = .ok (.iaload, 1) := by decide +kernel
theorem d1_47 : decode prog_11_method_1_code 47 = .ok (.aload_n 2, 1) := by decide +kernel
theorem d1_48 : decode prog_11_method_1_code 48 = .ok (.iload_n 3, 1) := by decide +kernel
theorem d1_49 : decode prog_11_method_1_code 49 = .ok (.iconst 1, 1) := by decide +kernel
theorem d1_50 : decode prog_11_method_1_code 50 = .ok (.isub, 1) := by decide +kernel
theorem d1_51 : decode prog_11_method_1_code 51 = .ok (.iaload, 1) := by decide +kernel
theorem d1_52 : decode prog_11_method_1_code 52 = .ok (.if_icmp .ge 19, 3) := by decide +kernel
theorem d1_71 : decode prog_11_method_1_code 71 = .ok (.iinc 3 1, 3) := by decide +kernel
theorem d1_74 : decode prog_11_method_1_code 74 = .ok (.goto (-36), 3) := by decide +kernel
theorem d1_77 : decode prog_11_method_1_code 77 = .ok (.aload_n 0, 1) := by decide +kernel
theorem d1_78 : decode prog_11_method_1_code 78 = .ok (.aload_n 1, 1) := by decide +kernel
theorem d1_79 : decode prog_11_method_1_code 79 = .ok (.putfield 18, 3) := by decide +kernel
theorem d1_82 : decode prog_11_method_1_code 82 = .ok (.aload_n 0, 1) := by decide +kernel
theorem d1_83 : decode prog_11_method_1_code 83 = .ok (.aload_n 2, 1) := by decide +kernel
theorem d1_84 : decode prog_11_method_1_code 84 = .ok (.putfield 24, 3) := by decide +kernel
theorem d1_87 : decode prog_11_method_1_code 87 = .ok (.return_, 1) := by decide +kernel
theorem pn_2 : plainName "com/example/nosograph/nosograph/input/ByteStrings" = true := by first | (simp [plainName, overriddenIn]; done) | decide +kernel
def Q_rm1 (Z : State) (a1 : Addr) (bb : Addr) (ss : Addr) (kb : ClassId) (ks : ClassId) (vb : List Value) (u1 : Int32) (u2 : Int32) (u3 : Int32) (h0 : Heap) (n0 : Nat) (v : Option Value) (h : Heap) (L : List Loc) : Prop := v = none ∧ Fr n0 L ∧ Keep h0 h [a1] ∧ (Fld Z h a1 "com/example/nosograph/nosograph/input/ByteStrings" "starts" "[I" (.ref ss))
theorem ef_rm1 (m : MethodId) (a1 : Addr) (bb : Addr) (ss : Addr) : entryFrame m #[(.ref a1), (.ref bb), (.ref ss)] 4 = mkF m 0 #[.val (.ref a1), .val (.ref bb), .val (.ref ss), .unset] [] := by first | (simp [entryFrame, mkF, argsToLocals, Value.category]; done) | rfl
set_option maxRecDepth 65536 in
set_option maxHeartbeats 40000000 in
theorem rm1 (l : Launch) (Z : State) (a0 : Array Value) (hw : ∀ d ∈ tables_1, d.before a0 Z = true) (ws : List Jvm.Cond) (a1 : Addr) (bb : Addr) (ss : Addr) (kb : ClassId) (ks : ClassId) (vb : List Value) (u1 : Int32) (u2 : Int32) (u3 : Int32) (h0 : Heap) (n0 : Nat) (Z0 : n0 ≤ h0.size) (pf_E_a1 : Exa Z h0 a1 "com/example/nosograph/nosograph/input/ByteStrings") (pf_G_a1 : n0 ≤ a1) (pf_F_a1_com_example_nosograph_nosograph_input_ByteStrings_bytes : Fld Z h0 a1 "com/example/nosograph/nosograph/input/ByteStrings" "bytes" "[B" .null) (pf_F_a1_com_example_nosograph_nosograph_input_ByteStrings_starts : Fld Z h0 a1 "com/example/nosograph/nosograph/input/ByteStrings" "starts" "[I" .null) (pf_V_bb : Arv Z h0 bb kb .byte ((u1 + u2) + u3) vb (.int (0 : Int32))) (pf_V_ss : Arv Z h0 ss ks .int (4 : Int32) [(.int (0 : Int32)), (.int u1), (.int (u1 + u2)), (.int ((u1 + u2) + u3))] (.int (0 : Int32))) (pf_NE_ss_a1 : ss ≠ a1) (pf_NE_bb_a1 : bb ≠ a1) (hp : ¬ u1 < (0 : Int32)) (hq : ¬ (u1 + u2) < u1) (hr : ¬ ((u1 + u2) + u3) < (u1 + u2)) :
    MetFree l (⟨"com/example/nosograph/nosograph/input/ByteStrings", "<init>", "([B[I)V"⟩ : MethodName) (head1 (Jvm.Cond.code (⟨"com/example/nosograph/nosograph/input/ByteStrings", "<init>", "([B[I)V"⟩ : MethodName) prog_11_method_1_code 4 none :: ws) ({ frames := 2, cells := 0, slots := 0, locals := 24 } : Room)) (fun a U => a = #[(.ref a1), (.ref bb), (.ref ss)] ∧ Z.Warmed39 U.vm ∧ U.heap = h0) (fun _ _ _ _ _ => True) (fun _ U o U' => ∃ v L, o = .returned v ∧ Q_rm1 Z a1 bb ss kb ks vb u1 u2 u3 h0 n0 v U'.heap L ∧ FrameEnd U o U' L ({ frames := 2, cells := 0, slots := 0, locals := 24 } : Room).cells ({ frames := 2, cells := 0, slots := 0, locals := 24 } : Room).slots) := by
  refine MetFree.of_bodySF (plainFor_of_name pn_2) hisR ?_
  intro p e s m args below meth c s₁ Bd hml0 hP hK
  obtain ⟨rfl, hZ, hh⟩ := hP
  have hx := Bd.exec
  have hby := Bd.bytes
  have hml : c.maxLocals = 4 := hml0
  have hown : s.vm.findClass "com/example/nosograph/nosograph/input/ByteStrings" = some m.cls := findClass_of_methodNamed Bd.named
  have hnm := (name_of_methodNamed Bd.named Bd.method).1
  have X0 : Stand p l e ({ frames := 2, cells := 0, slots := 0, locals := 24 } : Room) s m #[(.ref a1), (.ref bb), (.ref ss)] below meth c s₁ [] 0 0 := Stand.of_body Bd
  have e0 : s₁.heap = h0 := by rw [← hh, Bd.state]; rfl
  have N0 := Fr.nil n0
  have K0 := Keep.refl h0 [a1]
  show Goes p e below s (Q_rm1 Z a1 bb ss kb ks vb u1 u2 u3 h0 n0) ({ frames := 2, cells := 0, slots := 0, locals := 24 } : Room).cells ({ frames := 2, cells := 0, slots := 0, locals := 24 } : Room).slots (s₁.setTop (entryFrame m #[(.ref a1), (.ref bb), (.ref ss)] 4))
  refine Goes.pre (fun t kt => castTop (ef_rm1 m a1 bb ss) kt) ?_
  show Goes p e below s _ _ _ (s₁.setTop (mkF m 0 #[.val (.ref a1), .val (.ref bb), .val (.ref ss), .unset] []))
  refine Goes.pre (fun t kt => XS.aloadN X0.here hx rfl (hb hby d1_0) rfl rfl kt) ?_
  show Goes p e below s _ _ _ (s₁.setTop (mkF m 1 #[.val (.ref a1), .val (.ref bb), .val (.ref ss), .unset] [(.ref a1)]))
  obtain ⟨_, _, ⟨T1, L1, k1, n1⟩, -, X1, ⟨Lc1, hQ1, l1, y1, z1⟩, st1⟩ := X0.specialBack hx (y := (⟨"java/lang/Record", "<init>", "()V"⟩ : MethodName)) rfl hown (mvT hZ (hw _ (List.mem_of_getElem? (i := 8) rfl))) (mvT hZ (hw _ (List.mem_of_getElem? (i := 9) rfl))) (mvT hZ (hw _ (List.mem_of_getElem? (i := 12) rfl))) (by decide) (backOf (W := 0) (rm2 l Z a0 hw [] a1 h0 n0 Z0 ) hZ (hw _ (List.mem_of_getElem? (i := 12) rfl)) (hw _ (List.mem_of_getElem? (i := 11) rfl)) (by decide) (by decide)) (g := (mkF m 1 #[.val (.ref a1), .val (.ref bb), .val (.ref ss), .unset] [(.ref a1)])) rfl (by rw [hml]; rfl) (Steps.refl _) (a := a1) (argsL := []) (rest := []) (lenOf pd_1 rfl) rfl (by show 2 * 0 + _ ≤ _; exact Nat.le_of_eq rfl) (hb hby d1_1) (fun _ _ => ⟨rfl, e0, (by decide : 0 + 0 ≤ _), (by decide : 0 + 0 ≤ _)⟩)
  dsimp only [Pt.U, Pt.locs, Pt.cells, Pt.slots] at X1 l1 y1 z1 st1 hQ1
  subst l1 y1 z1
  obtain ⟨rfl, Nq1, eq1⟩ := hQ1
  refine Goes.run st1 ?_
  have N1 := Fr.app N0 Nq1
  show Goes p e below s _ _ _ (T1.setTop (mkF m 4 #[.val (.ref a1), .val (.ref bb), .val (.ref ss), .unset] []))
  refine Goes.pre (fun t kt => XS.aloadN X1.here hx rfl (hb hby d1_4) rfl rfl kt) ?_
  show Goes p e below s _ _ _ (T1.setTop (mkF m 5 #[.val (.ref a1), .val (.ref bb), .val (.ref ss), .unset] [(.ref ss)]))
  obtain ⟨cl2, Ar2, aq2, aS2, aN2, aH2, aG2⟩ := pf_V_ss
  have V2 : Arv Z h0 ss ks .int (4 : Int32) [(.int (0 : Int32)), (.int u1), (.int (u1 + u2)), (.int ((u1 + u2) + u3))] (.int (0 : Int32)) := ⟨cl2, Ar2, aq2, aS2, aN2, aH2, aG2⟩
  refine Goes.pre (X1.arraylength hx (by rw [eq1]; exact Ar2.1) (State.isArrayOf_alike hZ.alike Ar2.2.1) (g := (mkF m 5 #[.val (.ref a1), .val (.ref bb), .val (.ref ss), .unset] [(.ref ss)])) rfl rfl (hb hby d1_5)) ?_
  rw [len_of aS2 aN2]
  show Goes p e below s _ _ _ (T1.setTop (mkF m 6 #[.val (.ref a1), .val (.ref bb), .val (.ref ss), .unset] [(.int (4 : Int32))]))
  refine Goes.pre (fun t kt => XS.ifNo X1.here hx rfl (hb hby d1_6) rfl (Jvm.Free.XT.i0_eq_f ((by decide))) kt) ?_
  show Goes p e below s _ _ _ (T1.setTop (mkF m 9 #[.val (.ref a1), .val (.ref bb), .val (.ref ss), .unset] []))
  refine Goes.pre (fun t kt => XS.aloadN X1.here hx rfl (hb hby d1_9) rfl rfl kt) ?_
  show Goes p e below s _ _ _ (T1.setTop (mkF m 10 #[.val (.ref a1), .val (.ref bb), .val (.ref ss), .unset] [(.ref ss)]))
  refine Goes.pre (fun t kt => XS.iconst X1.here hx rfl (hb hby d1_10) kt) ?_
  show Goes p e below s _ _ _ (T1.setTop (mkF m 11 #[.val (.ref a1), .val (.ref bb), .val (.ref ss), .unset] [(.int (0 : Int32)), (.ref ss)]))
  obtain ⟨cl3, Ar3, aq3, aS3, aN3, aH3, aG3⟩ := V2
  have V3 : Arv Z h0 ss ks .int (4 : Int32) [(.int (0 : Int32)), (.int u1), (.int (u1 + u2)), (.int ((u1 + u2) + u3))] (.int (0 : Int32)) := ⟨cl3, Ar3, aq3, aS3, aN3, aH3, aG3⟩
  have hin3 : ¬ ((0 : Int32) < 0 ∨ cl3.slots.size ≤ ((0 : Int32)).toNatClampNeg) := inb_of aS3 ⟨by decide, by decide⟩
  have hat3 : cl3.slots[((0 : Int32)).toNatClampNeg]? = some (.int (0 : Int32)) := aH3.at hin3 rfl
  refine Goes.pre (X1.iaload hx (j := (0 : Int32)) (v := (.int (0 : Int32))) (by rw [eq1]; exact Ar3.1) (State.isArrayOf_alike hZ.alike Ar3.2.1) Ar3.2.2 hin3 hat3 (g := (mkF m 11 #[.val (.ref a1), .val (.ref bb), .val (.ref ss), .unset] [(.int (0 : Int32)), (.ref ss)])) rfl rfl (hb hby d1_11)) ?_
  show Goes p e below s _ _ _ (T1.setTop (mkF m 12 #[.val (.ref a1), .val (.ref bb), .val (.ref ss), .unset] [(.int (0 : Int32))]))
  refine Goes.pre (fun t kt => XS.ifNo X1.here hx rfl (hb hby d1_12) rfl (Jvm.Free.XT.i0_ne_f ((by decide))) kt) ?_
  show Goes p e below s _ _ _ (T1.setTop (mkF m 15 #[.val (.ref a1), .val (.ref bb), .val (.ref ss), .unset] []))
  refine Goes.pre (fun t kt => XS.aloadN X1.here hx rfl (hb hby d1_15) rfl rfl kt) ?_
  show Goes p e below s _ _ _ (T1.setTop (mkF m 16 #[.val (.ref a1), .val (.ref bb), .val (.ref ss), .unset] [(.ref ss)]))
  refine Goes.pre (fun t kt => XS.aloadN X1.here hx rfl (hb hby d1_16) rfl rfl kt) ?_
  show Goes p e below s _ _ _ (T1.setTop (mkF m 17 #[.val (.ref a1), .val (.ref bb), .val (.ref ss), .unset] [(.ref ss), (.ref ss)]))
  obtain ⟨cl4, Ar4, aq4, aS4, aN4, aH4, aG4⟩ := V3
  have V4 : Arv Z h0 ss ks .int (4 : Int32) [(.int (0 : Int32)), (.int u1), (.int (u1 + u2)), (.int ((u1 + u2) + u3))] (.int (0 : Int32)) := ⟨cl4, Ar4, aq4, aS4, aN4, aH4, aG4⟩
  refine Goes.pre (X1.arraylength hx (by rw [eq1]; exact Ar4.1) (State.isArrayOf_alike hZ.alike Ar4.2.1) (g := (mkF m 17 #[.val (.ref a1), .val (.ref bb), .val (.ref ss), .unset] [(.ref ss), (.ref ss)])) rfl rfl (hb hby d1_17)) ?_
  rw [len_of aS4 aN4]
  show Goes p e below s _ _ _ (T1.setTop (mkF m 18 #[.val (.ref a1), .val (.ref bb), .val (.ref ss), .unset] [(.int (4 : Int32)), (.ref ss)]))
  refine Goes.pre (fun t kt => XS.iconst X1.here hx rfl (hb hby d1_18) kt) ?_
  show Goes p e below s _ _ _ (T1.setTop (mkF m 19 #[.val (.ref a1), .val (.ref bb), .val (.ref ss), .unset] [(.int (1 : Int32)), (.int (4 : Int32)), (.ref ss)]))
  refine Goes.pre (fun t kt => XS.isub X1.here hx rfl (hb hby d1_19) rfl kt) ?_
  show Goes p e below s _ _ _ (T1.setTop (mkF m 20 #[.val (.ref a1), .val (.ref bb), .val (.ref ss), .unset] [(.int (3 : Int32)), (.ref ss)]))
  obtain ⟨cl5, Ar5, aq5, aS5, aN5, aH5, aG5⟩ := V4
  have V5 : Arv Z h0 ss ks .int (4 : Int32) [(.int (0 : Int32)), (.int u1), (.int (u1 + u2)), (.int ((u1 + u2) + u3))] (.int (0 : Int32)) := ⟨cl5, Ar5, aq5, aS5, aN5, aH5, aG5⟩
  have hin5 : ¬ ((3 : Int32) < 0 ∨ cl5.slots.size ≤ ((3 : Int32)).toNatClampNeg) := inb_of aS5 ⟨by decide, by decide⟩
  have hat5 : cl5.slots[((3 : Int32)).toNatClampNeg]? = some (.int ((u1 + u2) + u3)) := aH5.at hin5 rfl
  refine Goes.pre (X1.iaload hx (j := (3 : Int32)) (v := (.int ((u1 + u2) + u3))) (by rw [eq1]; exact Ar5.1) (State.isArrayOf_alike hZ.alike Ar5.2.1) Ar5.2.2 hin5 hat5 (g := (mkF m 20 #[.val (.ref a1), .val (.ref bb), .val (.ref ss), .unset] [(.int (3 : Int32)), (.ref ss)])) rfl rfl (hb hby d1_20)) ?_
  show Goes p e below s _ _ _ (T1.setTop (mkF m 21 #[.val (.ref a1), .val (.ref bb), .val (.ref ss), .unset] [(.int ((u1 + u2) + u3))]))
  refine Goes.pre (fun t kt => XS.aloadN X1.here hx rfl (hb hby d1_21) rfl rfl kt) ?_
  show Goes p e below s _ _ _ (T1.setTop (mkF m 22 #[.val (.ref a1), .val (.ref bb), .val (.ref ss), .unset] [(.ref bb), (.int ((u1 + u2) + u3))]))
  obtain ⟨cl6, Ar6, aq6, aS6, aN6, aH6, aG6⟩ := pf_V_bb
  have V6 : Arv Z h0 bb kb .byte ((u1 + u2) + u3) vb (.int (0 : Int32)) := ⟨cl6, Ar6, aq6, aS6, aN6, aH6, aG6⟩
  refine Goes.pre (X1.arraylength hx (by rw [eq1]; exact Ar6.1) (State.isArrayOf_alike hZ.alike Ar6.2.1) (g := (mkF m 22 #[.val (.ref a1), .val (.ref bb), .val (.ref ss), .unset] [(.ref bb), (.int ((u1 + u2) + u3))])) rfl rfl (hb hby d1_22)) ?_
  rw [len_of aS6 aN6]
  show Goes p e below s _ _ _ (T1.setTop (mkF m 23 #[.val (.ref a1), .val (.ref bb), .val (.ref ss), .unset] [(.int ((u1 + u2) + u3)), (.int ((u1 + u2) + u3))]))
  refine Goes.pre (fun t kt => XS.icmpYes X1.here hx rfl (pc0 := 23) (pc' := 36) rfl (hb hby d1_23) rfl (Jvm.Free.XT.ii_eq_t (rfl)) (by decide) (by decide) kt) ?_
  show Goes p e below s _ _ _ (T1.setTop (mkF m 36 #[.val (.ref a1), .val (.ref bb), .val (.ref ss), .unset] []))
  refine Goes.pre (fun t kt => XS.iconst X1.here hx rfl (hb hby d1_36) kt) ?_
  show Goes p e below s _ _ _ (T1.setTop (mkF m 37 #[.val (.ref a1), .val (.ref bb), .val (.ref ss), .unset] [(.int (1 : Int32))]))
  refine Goes.pre (fun t kt => XS.istoreN X1.here hx rfl (hb hby d1_37) rfl (l' := #[.val (.ref a1), .val (.ref bb), .val (.ref ss), .val (.int (1 : Int32))]) rfl kt) ?_
  show Goes p e below s _ _ _ (T1.setTop (mkF m 38 #[.val (.ref a1), .val (.ref bb), .val (.ref ss), .val (.int (1 : Int32))] []))
  refine Goes.pre (fun t kt => XS.iloadN X1.here hx rfl (hb hby d1_38) rfl kt) ?_
  show Goes p e below s _ _ _ (T1.setTop (mkF m 39 #[.val (.ref a1), .val (.ref bb), .val (.ref ss), .val (.int (1 : Int32))] [(.int (1 : Int32))]))
  refine Goes.pre (fun t kt => XS.aloadN X1.here hx rfl (hb hby d1_39) rfl rfl kt) ?_
  show Goes p e below s _ _ _ (T1.setTop (mkF m 40 #[.val (.ref a1), .val (.ref bb), .val (.ref ss), .val (.int (1 : Int32))] [(.ref ss), (.int (1 : Int32))]))
  obtain ⟨cl7, Ar7, aq7, aS7, aN7, aH7, aG7⟩ := V5
  have V7 : Arv Z h0 ss ks .int (4 : Int32) [(.int (0 : Int32)), (.int u1), (.int (u1 + u2)), (.int ((u1 + u2) + u3))] (.int (0 : Int32)) := ⟨cl7, Ar7, aq7, aS7, aN7, aH7, aG7⟩
  refine Goes.pre (X1.arraylength hx (by rw [eq1]; exact Ar7.1) (State.isArrayOf_alike hZ.alike Ar7.2.1) (g := (mkF m 40 #[.val (.ref a1), .val (.ref bb), .val (.ref ss), .val (.int (1 : Int32))] [(.ref ss), (.int (1 : Int32))])) rfl rfl (hb hby d1_40)) ?_
  rw [len_of aS7 aN7]
  show Goes p e below s _ _ _ (T1.setTop (mkF m 41 #[.val (.ref a1), .val (.ref bb), .val (.ref ss), .val (.int (1 : Int32))] [(.int (4 : Int32)), (.int (1 : Int32))]))
  refine Goes.pre (fun t kt => XS.icmpNo X1.here hx rfl (hb hby d1_41) rfl (Jvm.Free.XT.ii_ge_f ((by decide))) kt) ?_
  show Goes p e below s _ _ _ (T1.setTop (mkF m 44 #[.val (.ref a1), .val (.ref bb), .val (.ref ss), .val (.int (1 : Int32))] []))
  refine Goes.pre (fun t kt => XS.aloadN X1.here hx rfl (hb hby d1_44) rfl rfl kt) ?_
  show Goes p e below s _ _ _ (T1.setTop (mkF m 45 #[.val (.ref a1), .val (.ref bb), .val (.ref ss), .val (.int (1 : Int32))] [(.ref ss)]))
  refine Goes.pre (fun t kt => XS.iloadN X1.here hx rfl (hb hby d1_45) rfl kt) ?_
  show Goes p e below s _ _ _ (T1.setTop (mkF m 46 #[.val (.ref a1), .val (.ref bb), .val (.ref ss), .val (.int (1 : Int32))] [(.int (1 : Int32)), (.ref ss)]))
  obtain ⟨cl8, Ar8, aq8, aS8, aN8, aH8, aG8⟩ := V7
  have V8 : Arv Z h0 ss ks .int (4 : Int32) [(.int (0 : Int32)), (.int u1), (.int (u1 + u2)), (.int ((u1 + u2) + u3))] (.int (0 : Int32)) := ⟨cl8, Ar8, aq8, aS8, aN8, aH8, aG8⟩
  have hin8 : ¬ ((1 : Int32) < 0 ∨ cl8.slots.size ≤ ((1 : Int32)).toNatClampNeg) := inb_of aS8 ⟨by decide, by decide⟩
  have hat8 : cl8.slots[((1 : Int32)).toNatClampNeg]? = some (.int u1) := aH8.at hin8 rfl
  refine Goes.pre (X1.iaload hx (j := (1 : Int32)) (v := (.int u1)) (by rw [eq1]; exact Ar8.1) (State.isArrayOf_alike hZ.alike Ar8.2.1) Ar8.2.2 hin8 hat8 (g := (mkF m 46 #[.val (.ref a1), .val (.ref bb), .val (.ref ss), .val (.int (1 : Int32))] [(.int (1 : Int32)), (.ref ss)])) rfl rfl (hb hby d1_46)) ?_
  show Goes p e below s _ _ _ (T1.setTop (mkF m 47 #[.val (.ref a1), .val (.ref bb), .val (.ref ss), .val (.int (1 : Int32))] [(.int u1)]))
  refine Goes.pre (fun t kt => XS.aloadN X1.here hx rfl (hb hby d1_47) rfl rfl kt) ?_
  show Goes p e below s _ _ _ (T1.setTop (mkF m 48 #[.val (.ref a1), .val (.ref bb), .val (.ref ss), .val (.int (1 : Int32))] [(.ref ss), (.int u1)]))
  refine Goes.pre (fun t kt => XS.iloadN X1.here hx rfl (hb hby d1_48) rfl kt) ?_
  show Goes p e below s _ _ _ (T1.setTop (mkF m 49 #[.val (.ref a1), .val (.ref bb), .val (.ref ss), .val (.int (1 : Int32))] [(.int (1 : Int32)), (.ref ss), (.int u1)]))
  refine Goes.pre (fun t kt => XS.iconst X1.here hx rfl (hb hby d1_49) kt) ?_
  show Goes p e below s _ _ _ (T1.setTop (mkF m 50 #[.val (.ref a1), .val (.ref bb), .val (.ref ss), .val (.int (1 : Int32))] [(.int (1 : Int32)), (.int (1 : Int32)), (.ref ss), (.int u1)]))
  refine Goes.pre (fun t kt => XS.isub X1.here hx rfl (hb hby d1_50) rfl kt) ?_
  show Goes p e below s _ _ _ (T1.setTop (mkF m 51 #[.val (.ref a1), .val (.ref bb), .val (.ref ss), .val (.int (1 : Int32))] [(.int (0 : Int32)), (.ref ss), (.int u1)]))
  obtain ⟨cl9, Ar9, aq9, aS9, aN9, aH9, aG9⟩ := V8
  have V9 : Arv Z h0 ss ks .int (4 : Int32) [(.int (0 : Int32)), (.int u1), (.int (u1 + u2)), (.int ((u1 + u2) + u3))] (.int (0 : Int32)) := ⟨cl9, Ar9, aq9, aS9, aN9, aH9, aG9⟩
  have hin9 : ¬ ((0 : Int32) < 0 ∨ cl9.slots.size ≤ ((0 : Int32)).toNatClampNeg) := inb_of aS9 ⟨by decide, by decide⟩
  have hat9 : cl9.slots[((0 : Int32)).toNatClampNeg]? = some (.int (0 : Int32)) := aH9.at hin9 rfl
  refine Goes.pre (X1.iaload hx (j := (0 : Int32)) (v := (.int (0 : Int32))) (by rw [eq1]; exact Ar9.1) (State.isArrayOf_alike hZ.alike Ar9.2.1) Ar9.2.2 hin9 hat9 (g := (mkF m 51 #[.val (.ref a1), .val (.ref bb), .val (.ref ss), .val (.int (1 : Int32))] [(.int (0 : Int32)), (.ref ss), (.int u1)])) rfl rfl (hb hby d1_51)) ?_
  show Goes p e below s _ _ _ (T1.setTop (mkF m 52 #[.val (.ref a1), .val (.ref bb), .val (.ref ss), .val (.int (1 : Int32))] [(.int (0 : Int32)), (.int u1)]))
  refine Goes.pre (fun t kt => XS.icmpYes X1.here hx rfl (pc0 := 52) (pc' := 71) rfl (hb hby d1_52) rfl (Jvm.Free.XT.ii_ge_t (hp)) (by decide) (by decide) kt) ?_
  show Goes p e below s _ _ _ (T1.setTop (mkF m 71 #[.val (.ref a1), .val (.ref bb), .val (.ref ss), .val (.int (1 : Int32))] []))
  refine Goes.pre (fun t kt => XS.iinc X1.here hx rfl (hb hby d1_71) rfl (l' := #[.val (.ref a1), .val (.ref bb), .val (.ref ss), .val (.int (2 : Int32))]) rfl kt) ?_
  show Goes p e below s _ _ _ (T1.setTop (mkF m 74 #[.val (.ref a1), .val (.ref bb), .val (.ref ss), .val (.int (2 : Int32))] []))
  refine Goes.pre (fun t kt => XS.goto X1.here hx rfl (pc0 := 74) (pc' := 38) rfl (hb hby d1_74) (by decide) (by decide) kt) ?_
  show Goes p e below s _ _ _ (T1.setTop (mkF m 38 #[.val (.ref a1), .val (.ref bb), .val (.ref ss), .val (.int (2 : Int32))] []))
  refine Goes.pre (fun t kt => XS.iloadN X1.here hx rfl (hb hby d1_38) rfl kt) ?_
  show Goes p e below s _ _ _ (T1.setTop (mkF m 39 #[.val (.ref a1), .val (.ref bb), .val (.ref ss), .val (.int (2 : Int32))] [(.int (2 : Int32))]))
  refine Goes.pre (fun t kt => XS.aloadN X1.here hx rfl (hb hby d1_39) rfl rfl kt) ?_
  show Goes p e below s _ _ _ (T1.setTop (mkF m 40 #[.val (.ref a1), .val (.ref bb), .val (.ref ss), .val (.int (2 : Int32))] [(.ref ss), (.int (2 : Int32))]))
  obtain ⟨cl10, Ar10, aq10, aS10, aN10, aH10, aG10⟩ := V9
  have V10 : Arv Z h0 ss ks .int (4 : Int32) [(.int (0 : Int32)), (.int u1), (.int (u1 + u2)), (.int ((u1 + u2) + u3))] (.int (0 : Int32)) := ⟨cl10, Ar10, aq10, aS10, aN10, aH10, aG10⟩
  refine Goes.pre (X1.arraylength hx (by rw [eq1]; exact Ar10.1) (State.isArrayOf_alike hZ.alike Ar10.2.1) (g := (mkF m 40 #[.val (.ref a1), .val (.ref bb), .val (.ref ss), .val (.int (2 : Int32))] [(.ref ss), (.int (2 : Int32))])) rfl rfl (hb hby d1_40)) ?_
  rw [len_of aS10 aN10]
  show Goes p e below s _ _ _ (T1.setTop (mkF m 41 #[.val (.ref a1), .val (.ref bb), .val (.ref ss), .val (.int (2 : Int32))] [(.int (4 : Int32)), (.int (2 : Int32))]))
  refine Goes.pre (fun t kt => XS.icmpNo X1.here hx rfl (hb hby d1_41) rfl (Jvm.Free.XT.ii_ge_f ((by decide))) kt) ?_
  show Goes p e below s _ _ _ (T1.setTop (mkF m 44 #[.val (.ref a1), .val (.ref bb), .val (.ref ss), .val (.int (2 : Int32))] []))
  refine Goes.pre (fun t kt => XS.aloadN X1.here hx rfl (hb hby d1_44) rfl rfl kt) ?_
  show Goes p e below s _ _ _ (T1.setTop (mkF m 45 #[.val (.ref a1), .val (.ref bb), .val (.ref ss), .val (.int (2 : Int32))] [(.ref ss)]))
  refine Goes.pre (fun t kt => XS.iloadN X1.here hx rfl (hb hby d1_45) rfl kt) ?_
  show Goes p e below s _ _ _ (T1.setTop (mkF m 46 #[.val (.ref a1), .val (.ref bb), .val (.ref ss), .val (.int (2 : Int32))] [(.int (2 : Int32)), (.ref ss)]))
  obtain ⟨cl11, Ar11, aq11, aS11, aN11, aH11, aG11⟩ := V10
  have V11 : Arv Z h0 ss ks .int (4 : Int32) [(.int (0 : Int32)), (.int u1), (.int (u1 + u2)), (.int ((u1 + u2) + u3))] (.int (0 : Int32)) := ⟨cl11, Ar11, aq11, aS11, aN11, aH11, aG11⟩
  have hin11 : ¬ ((2 : Int32) < 0 ∨ cl11.slots.size ≤ ((2 : Int32)).toNatClampNeg) := inb_of aS11 ⟨by decide, by decide⟩
  have hat11 : cl11.slots[((2 : Int32)).toNatClampNeg]? = some (.int (u1 + u2)) := aH11.at hin11 rfl
  refine Goes.pre (X1.iaload hx (j := (2 : Int32)) (v := (.int (u1 + u2))) (by rw [eq1]; exact Ar11.1) (State.isArrayOf_alike hZ.alike Ar11.2.1) Ar11.2.2 hin11 hat11 (g := (mkF m 46 #[.val (.ref a1), .val (.ref bb), .val (.ref ss), .val (.int (2 : Int32))] [(.int (2 : Int32)), (.ref ss)])) rfl rfl (hb hby d1_46)) ?_
  show Goes p e below s _ _ _ (T1.setTop (mkF m 47 #[.val (.ref a1), .val (.ref bb), .val (.ref ss), .val (.int (2 : Int32))] [(.int (u1 + u2))]))
  refine Goes.pre (fun t kt => XS.aloadN X1.here hx rfl (hb hby d1_47) rfl rfl kt) ?_
  show Goes p e below s _ _ _ (T1.setTop (mkF m 48 #[.val (.ref a1), .val (.ref bb), .val (.ref ss), .val (.int (2 : Int32))] [(.ref ss), (.int (u1 + u2))]))
  refine Goes.pre (fun t kt => XS.iloadN X1.here hx rfl (hb hby d1_48) rfl kt) ?_
  show Goes p e below s _ _ _ (T1.setTop (mkF m 49 #[.val (.ref a1), .val (.ref bb), .val (.ref ss), .val (.int (2 : Int32))] [(.int (2 : Int32)), (.ref ss), (.int (u1 + u2))]))
  refine Goes.pre (fun t kt => XS.iconst X1.here hx rfl (hb hby d1_49) kt) ?_
  show Goes p e below s _ _ _ (T1.setTop (mkF m 50 #[.val (.ref a1), .val (.ref bb), .val (.ref ss), .val (.int (2 : Int32))] [(.int (1 : Int32)), (.int (2 : Int32)), (.ref ss), (.int (u1 + u2))]))
  refine Goes.pre (fun t kt => XS.isub X1.here hx rfl (hb hby d1_50) rfl kt) ?_
  show Goes p e below s _ _ _ (T1.setTop (mkF m 51 #[.val (.ref a1), .val (.ref bb), .val (.ref ss), .val (.int (2 : Int32))] [(.int (1 : Int32)), (.ref ss), (.int (u1 + u2))]))
  obtain ⟨cl12, Ar12, aq12, aS12, aN12, aH12, aG12⟩ := V11
  have V12 : Arv Z h0 ss ks .int (4 : Int32) [(.int (0 : Int32)), (.int u1), (.int (u1 + u2)), (.int ((u1 + u2) + u3))] (.int (0 : Int32)) := ⟨cl12, Ar12, aq12, aS12, aN12, aH12, aG12⟩
  have hin12 : ¬ ((1 : Int32) < 0 ∨ cl12.slots.size ≤ ((1 : Int32)).toNatClampNeg) := inb_of aS12 ⟨by decide, by decide⟩
  have hat12 : cl12.slots[((1 : Int32)).toNatClampNeg]? = some (.int u1) := aH12.at hin12 rfl
  refine Goes.pre (X1.iaload hx (j := (1 : Int32)) (v := (.int u1)) (by rw [eq1]; exact Ar12.1) (State.isArrayOf_alike hZ.alike Ar12.2.1) Ar12.2.2 hin12 hat12 (g := (mkF m 51 #[.val (.ref a1), .val (.ref bb), .val (.ref ss), .val (.int (2 : Int32))] [(.int (1 : Int32)), (.ref ss), (.int (u1 + u2))])) rfl rfl (hb hby d1_51)) ?_
  show Goes p e below s _ _ _ (T1.setTop (mkF m 52 #[.val (.ref a1), .val (.ref bb), .val (.ref ss), .val (.int (2 : Int32))] [(.int u1), (.int (u1 + u2))]))
  refine Goes.pre (fun t kt => XS.icmpYes X1.here hx rfl (pc0 := 52) (pc' := 71) rfl (hb hby d1_52) rfl (Jvm.Free.XT.ii_ge_t (hq)) (by decide) (by decide) kt) ?_
  show Goes p e below s _ _ _ (T1.setTop (mkF m 71 #[.val (.ref a1), .val (.ref bb), .val (.ref ss), .val (.int (2 : Int32))] []))
  refine Goes.pre (fun t kt => XS.iinc X1.here hx rfl (hb hby d1_71) rfl (l' := #[.val (.ref a1), .val (.ref bb), .val (.ref ss), .val (.int (3 : Int32))]) rfl kt) ?_
  show Goes p e below s _ _ _ (T1.setTop (mkF m 74 #[.val (.ref a1), .val (.ref bb), .val (.ref ss), .val (.int (3 : Int32))] []))
  refine Goes.pre (fun t kt => XS.goto X1.here hx rfl (pc0 := 74) (pc' := 38) rfl (hb hby d1_74) (by decide) (by decide) kt) ?_
  show Goes p e below s _ _ _ (T1.setTop (mkF m 38 #[.val (.ref a1), .val (.ref bb), .val (.ref ss), .val (.int (3 : Int32))] []))
  refine Goes.pre (fun t kt => XS.iloadN X1.here hx rfl (hb hby d1_38) rfl kt) ?_
  show Goes p e below s _ _ _ (T1.setTop (mkF m 39 #[.val (.ref a1), .val (.ref bb), .val (.ref ss), .val (.int (3 : Int32))] [(.int (3 : Int32))]))
  refine Goes.pre (fun t kt => XS.aloadN X1.here hx rfl (hb hby d1_39) rfl rfl kt) ?_
  show Goes p e below s _ _ _ (T1.setTop (mkF m 40 #[.val (.ref a1), .val (.ref bb), .val (.ref ss), .val (.int (3 : Int32))] [(.ref ss), (.int (3 : Int32))]))
  obtain ⟨cl13, Ar13, aq13, aS13, aN13, aH13, aG13⟩ := V12
  have V13 : Arv Z h0 ss ks .int (4 : Int32) [(.int (0 : Int32)), (.int u1), (.int (u1 + u2)), (.int ((u1 + u2) + u3))] (.int (0 : Int32)) := ⟨cl13, Ar13, aq13, aS13, aN13, aH13, aG13⟩
  refine Goes.pre (X1.arraylength hx (by rw [eq1]; exact Ar13.1) (State.isArrayOf_alike hZ.alike Ar13.2.1) (g := (mkF m 40 #[.val (.ref a1), .val (.ref bb), .val (.ref ss), .val (.int (3 : Int32))] [(.ref ss), (.int (3 : Int32))])) rfl rfl (hb hby d1_40)) ?_
  rw [len_of aS13 aN13]
  show Goes p e below s _ _ _ (T1.setTop (mkF m 41 #[.val (.ref a1), .val (.ref bb), .val (.ref ss), .val (.int (3 : Int32))] [(.int (4 : Int32)), (.int (3 : Int32))]))
  refine Goes.pre (fun t kt => XS.icmpNo X1.here hx rfl (hb hby d1_41) rfl (Jvm.Free.XT.ii_ge_f ((by decide))) kt) ?_
  show Goes p e below s _ _ _ (T1.setTop (mkF m 44 #[.val (.ref a1), .val (.ref bb), .val (.ref ss), .val (.int (3 : Int32))] []))
  refine Goes.pre (fun t kt => XS.aloadN X1.here hx rfl (hb hby d1_44) rfl rfl kt) ?_
  show Goes p e below s _ _ _ (T1.setTop (mkF m 45 #[.val (.ref a1), .val (.ref bb), .val (.ref ss), .val (.int (3 : Int32))] [(.ref ss)]))
  refine Goes.pre (fun t kt => XS.iloadN X1.here hx rfl (hb hby d1_45) rfl kt) ?_
  show Goes p e below s _ _ _ (T1.setTop (mkF m 46 #[.val (.ref a1), .val (.ref bb), .val (.ref ss), .val (.int (3 : Int32))] [(.int (3 : Int32)), (.ref ss)]))
  obtain ⟨cl14, Ar14, aq14, aS14, aN14, aH14, aG14⟩ := V13
  have V14 : Arv Z h0 ss ks .int (4 : Int32) [(.int (0 : Int32)), (.int u1), (.int (u1 + u2)), (.int ((u1 + u2) + u3))] (.int (0 : Int32)) := ⟨cl14, Ar14, aq14, aS14, aN14, aH14, aG14⟩
  have hin14 : ¬ ((3 : Int32) < 0 ∨ cl14.slots.size ≤ ((3 : Int32)).toNatClampNeg) := inb_of aS14 ⟨by decide, by decide⟩
  have hat14 : cl14.slots[((3 : Int32)).toNatClampNeg]? = some (.int ((u1 + u2) + u3)) := aH14.at hin14 rfl
  refine Goes.pre (X1.iaload hx (j := (3 : Int32)) (v := (.int ((u1 + u2) + u3))) (by rw [eq1]; exact Ar14.1) (State.isArrayOf_alike hZ.alike Ar14.2.1) Ar14.2.2 hin14 hat14 (g := (mkF m 46 #[.val (.ref a1), .val (.ref bb), .val (.ref ss), .val (.int (3 : Int32))] [(.int (3 : Int32)), (.ref ss)])) rfl rfl (hb hby d1_46)) ?_
  show Goes p e below s _ _ _ (T1.setTop (mkF m 47 #[.val (.ref a1), .val (.ref bb), .val (.ref ss), .val (.int (3 : Int32))] [(.int ((u1 + u2) + u3))]))
  refine Goes.pre (fun t kt => XS.aloadN X1.here hx rfl (hb hby d1_47) rfl rfl kt) ?_
  show Goes p e below s _ _ _ (T1.setTop (mkF m 48 #[.val (.ref a1), .val (.ref bb), .val (.ref ss), .val (.int (3 : Int32))] [(.ref ss), (.int ((u1 + u2) + u3))]))
  refine Goes.pre (fun t kt => XS.iloadN X1.here hx rfl (hb hby d1_48) rfl kt) ?_
  show Goes p e below s _ _ _ (T1.setTop (mkF m 49 #[.val (.ref a1), .val (.ref bb), .val (.ref ss), .val (.int (3 : Int32))] [(.int (3 : Int32)), (.ref ss), (.int ((u1 + u2) + u3))]))
  refine Goes.pre (fun t kt => XS.iconst X1.here hx rfl (hb hby d1_49) kt) ?_
  show Goes p e below s _ _ _ (T1.setTop (mkF m 50 #[.val (.ref a1), .val (.ref bb), .val (.ref ss), .val (.int (3 : Int32))] [(.int (1 : Int32)), (.int (3 : Int32)), (.ref ss), (.int ((u1 + u2) + u3))]))
  refine Goes.pre (fun t kt => XS.isub X1.here hx rfl (hb hby d1_50) rfl kt) ?_
  show Goes p e below s _ _ _ (T1.setTop (mkF m 51 #[.val (.ref a1), .val (.ref bb), .val (.ref ss), .val (.int (3 : Int32))] [(.int (2 : Int32)), (.ref ss), (.int ((u1 + u2) + u3))]))
  obtain ⟨cl15, Ar15, aq15, aS15, aN15, aH15, aG15⟩ := V14
  have V15 : Arv Z h0 ss ks .int (4 : Int32) [(.int (0 : Int32)), (.int u1), (.int (u1 + u2)), (.int ((u1 + u2) + u3))] (.int (0 : Int32)) := ⟨cl15, Ar15, aq15, aS15, aN15, aH15, aG15⟩
  have hin15 : ¬ ((2 : Int32) < 0 ∨ cl15.slots.size ≤ ((2 : Int32)).toNatClampNeg) := inb_of aS15 ⟨by decide, by decide⟩
  have hat15 : cl15.slots[((2 : Int32)).toNatClampNeg]? = some (.int (u1 + u2)) := aH15.at hin15 rfl
  refine Goes.pre (X1.iaload hx (j := (2 : Int32)) (v := (.int (u1 + u2))) (by rw [eq1]; exact Ar15.1) (State.isArrayOf_alike hZ.alike Ar15.2.1) Ar15.2.2 hin15 hat15 (g := (mkF m 51 #[.val (.ref a1), .val (.ref bb), .val (.ref ss), .val (.int (3 : Int32))] [(.int (2 : Int32)), (.ref ss), (.int ((u1 + u2) + u3))])) rfl rfl (hb hby d1_51)) ?_
  show Goes p e below s _ _ _ (T1.setTop (mkF m 52 #[.val (.ref a1), .val (.ref bb), .val (.ref ss), .val (.int (3 : Int32))] [(.int (u1 + u2)), (.int ((u1 + u2) + u3))]))
  refine Goes.pre (fun t kt => XS.icmpYes X1.here hx rfl (pc0 := 52) (pc' := 71) rfl (hb hby d1_52) rfl (Jvm.Free.XT.ii_ge_t (hr)) (by decide) (by decide) kt) ?_
  show Goes p e below s _ _ _ (T1.setTop (mkF m 71 #[.val (.ref a1), .val (.ref bb), .val (.ref ss), .val (.int (3 : Int32))] []))
  refine Goes.pre (fun t kt => XS.iinc X1.here hx rfl (hb hby d1_71) rfl (l' := #[.val (.ref a1), .val (.ref bb), .val (.ref ss), .val (.int (4 : Int32))]) rfl kt) ?_
  show Goes p e below s _ _ _ (T1.setTop (mkF m 74 #[.val (.ref a1), .val (.ref bb), .val (.ref ss), .val (.int (4 : Int32))] []))
  refine Goes.pre (fun t kt => XS.goto X1.here hx rfl (pc0 := 74) (pc' := 38) rfl (hb hby d1_74) (by decide) (by decide) kt) ?_
  show Goes p e below s _ _ _ (T1.setTop (mkF m 38 #[.val (.ref a1), .val (.ref bb), .val (.ref ss), .val (.int (4 : Int32))] []))
  refine Goes.pre (fun t kt => XS.iloadN X1.here hx rfl (hb hby d1_38) rfl kt) ?_
  show Goes p e below s _ _ _ (T1.setTop (mkF m 39 #[.val (.ref a1), .val (.ref bb), .val (.ref ss), .val (.int (4 : Int32))] [(.int (4 : Int32))]))
  refine Goes.pre (fun t kt => XS.aloadN X1.here hx rfl (hb hby d1_39) rfl rfl kt) ?_
  show Goes p e below s _ _ _ (T1.setTop (mkF m 40 #[.val (.ref a1), .val (.ref bb), .val (.ref ss), .val (.int (4 : Int32))] [(.ref ss), (.int (4 : Int32))]))
  obtain ⟨cl16, Ar16, aq16, aS16, aN16, aH16, aG16⟩ := V15
  have V16 : Arv Z h0 ss ks .int (4 : Int32) [(.int (0 : Int32)), (.int u1), (.int (u1 + u2)), (.int ((u1 + u2) + u3))] (.int (0 : Int32)) := ⟨cl16, Ar16, aq16, aS16, aN16, aH16, aG16⟩
  refine Goes.pre (X1.arraylength hx (by rw [eq1]; exact Ar16.1) (State.isArrayOf_alike hZ.alike Ar16.2.1) (g := (mkF m 40 #[.val (.ref a1), .val (.ref bb), .val (.ref ss), .val (.int (4 : Int32))] [(.ref ss), (.int (4 : Int32))])) rfl rfl (hb hby d1_40)) ?_
  rw [len_of aS16 aN16]
  show Goes p e below s _ _ _ (T1.setTop (mkF m 41 #[.val (.ref a1), .val (.ref bb), .val (.ref ss), .val (.int (4 : Int32))] [(.int (4 : Int32)), (.int (4 : Int32))]))
  refine Goes.pre (fun t kt => XS.icmpYes X1.here hx rfl (pc0 := 41) (pc' := 77) rfl (hb hby d1_41) rfl (Jvm.Free.XT.ii_ge_t ((by decide))) (by decide) (by decide) kt) ?_
  show Goes p e below s _ _ _ (T1.setTop (mkF m 77 #[.val (.ref a1), .val (.ref bb), .val (.ref ss), .val (.int (4 : Int32))] []))
  refine Goes.pre (fun t kt => XS.aloadN X1.here hx rfl (hb hby d1_77) rfl rfl kt) ?_
  show Goes p e below s _ _ _ (T1.setTop (mkF m 78 #[.val (.ref a1), .val (.ref bb), .val (.ref ss), .val (.int (4 : Int32))] [(.ref a1)]))
  refine Goes.pre (fun t kt => XS.aloadN X1.here hx rfl (hb hby d1_78) rfl rfl kt) ?_
  show Goes p e below s _ _ _ (T1.setTop (mkF m 79 #[.val (.ref a1), .val (.ref bb), .val (.ref ss), .val (.int (4 : Int32))] [(.ref bb), (.ref a1)]))
  obtain ⟨T17, h17, X17, e17, W17, st17⟩ := putF X1 hx hZ hown (host := "") (Or.inl (hw _ (List.mem_of_getElem? (i := 16) rfl))) Via.refl eq1 pf_F_a1_com_example_nosograph_nosograph_input_ByteStrings_bytes pf_E_a1 (Or.inr ⟨(hw _ (List.mem_of_getElem? (i := 17) rfl)), rfl, hnm⟩) (hw _ (List.mem_of_getElem? (i := 3) rfl)) (ty := (.array .byte)) (by decide) rfl rfl (g := (mkF m 79 #[.val (.ref a1), .val (.ref bb), .val (.ref ss), .val (.int (4 : Int32))] [(.ref bb), (.ref a1)])) rfl rfl (hb hby d1_79)
  refine Goes.pre st17 ?_
  have Z17 : n0 ≤ h17.size := Nat.le_trans Z0 (Keep.of_wr W17).1
  have N17 := Fr.snoc X17 N1 pf_G_a1
  have K17 := K0.wr W17 (Or.inl (List.mem_of_getElem? (i := 0) rfl))
  have Fw17 : Fld Z h17 a1 "com/example/nosograph/nosograph/input/ByteStrings" "bytes" "[B" (.ref bb) := pf_F_a1_com_example_nosograph_nosograph_input_ByteStrings_bytes.same W17
  show Goes p e below s _ _ _ (T17.setTop (mkF m 82 #[.val (.ref a1), .val (.ref bb), .val (.ref ss), .val (.int (4 : Int32))] []))
  refine Goes.pre (fun t kt => XS.aloadN X17.here hx rfl (hb hby d1_82) rfl rfl kt) ?_
  show Goes p e below s _ _ _ (T17.setTop (mkF m 83 #[.val (.ref a1), .val (.ref bb), .val (.ref ss), .val (.int (4 : Int32))] [(.ref a1)]))
  refine Goes.pre (fun t kt => XS.aloadN X17.here hx rfl (hb hby d1_83) rfl rfl kt) ?_
  show Goes p e below s _ _ _ (T17.setTop (mkF m 84 #[.val (.ref a1), .val (.ref bb), .val (.ref ss), .val (.int (4 : Int32))] [(.ref ss), (.ref a1)]))
  have fc18 : Fld Z h17 a1 "com/example/nosograph/nosograph/input/ByteStrings" "starts" "[I" .null := (pf_F_a1_com_example_nosograph_nosograph_input_ByteStrings_starts.other W17 (Or.inr (slot_ne (Or.inr (hw _ (List.mem_of_getElem? (i := 19) rfl))) (Or.inr (hw _ (List.mem_of_getElem? (i := 17) rfl))) (by decide) (t := (.array .int)) (t' := (.array .byte)) (by decide) (by decide))))
  have fc19 : Exa Z h17 a1 "com/example/nosograph/nosograph/input/ByteStrings" := (pf_E_a1.wr W17)
  obtain ⟨T20, h20, X20, e20, W20, st20⟩ := putF X17 hx hZ hown (host := "") (Or.inl (hw _ (List.mem_of_getElem? (i := 18) rfl))) Via.refl e17 fc18 fc19 (Or.inr ⟨(hw _ (List.mem_of_getElem? (i := 19) rfl)), rfl, hnm⟩) (hw _ (List.mem_of_getElem? (i := 3) rfl)) (ty := (.array .int)) (by decide) rfl rfl (g := (mkF m 84 #[.val (.ref a1), .val (.ref bb), .val (.ref ss), .val (.int (4 : Int32))] [(.ref ss), (.ref a1)])) rfl rfl (hb hby d1_84)
  refine Goes.pre st20 ?_
  have Z20 : n0 ≤ h20.size := Nat.le_trans Z17 (Keep.of_wr W20).1
  have N20 := Fr.snoc X20 N17 pf_G_a1
  have K20 := K17.wr W20 (Or.inl (List.mem_of_getElem? (i := 0) rfl))
  have Fw20 : Fld Z h20 a1 "com/example/nosograph/nosograph/input/ByteStrings" "starts" "[I" (.ref ss) := fc18.same W20
  show Goes p e below s _ _ _ (T20.setTop (mkF m 87 #[.val (.ref a1), .val (.ref bb), .val (.ref ss), .val (.int (4 : Int32))] []))
  refine Goes.ret X20 none (fun _ => rfl) (BodyLoose.notSynchronized Bd) (by decide) (by decide) (fun fs hr => X20.returnOut hx Bd.returns (hb hby d1_87) hr) ?_
  show Q_rm1 Z a1 bb ss kb ks vb u1 u2 u3 h0 n0 _ T20.heap _
  rw [e20]
  exact ⟨rfl, N20, K20, Fw20⟩
theorem d4_0 : decode prog_11_method_7_code 0 = .ok (.aload_n 0, 1) := by decide +kernel
theorem d4_1 : decode prog_11_method_7_code 1 = .ok (.getfield 24, 3) := by decide +kernel
theorem d4_4 : decode prog_11_method_7_code 4 = .ok (.iload_n 1, 1) := by decide +kernel
theorem d4_5 : decode prog_11_method_7_code 5 = .ok (.iconst 1, 1) := by decide +kernel
theorem d4_6 : decode prog_11_method_7_code 6 = .ok (.iadd, 1) := by decide +kernel
theorem d4_7 : decode prog_11_method_7_code 7 = .ok (.iaload, 1) := by decide +kernel
theorem d4_8 : decode prog_11_method_7_code 8 = .ok (.aload_n 0, 1) := by decide +kernel
theorem d4_9 : decode prog_11_method_7_code 9 = .ok (.getfield 24, 3) := by decide +kernel
theorem d4_12 : decode prog_11_method_7_code 12 = .ok (.iload_n 1, 1) := by decide +kernel
theorem d4_13 : decode prog_11_method_7_code 13 = .ok (.iaload, 1) := by decide +kernel
theorem d4_14 : decode prog_11_method_7_code 14 = .ok (.isub, 1) := by decide +kernel
theorem d4_15 : decode prog_11_method_7_code 15 = .ok (.ireturn, 1) := by decide +kernel
def Q_rm4_0 (Z : State) (a1 : Addr) (ss : Addr) (ks : ClassId) (v0 : Int32) (v1 : Int32) (v2 : Int32) (v3 : Int32) (h0 : Heap) (n0 : Nat) (v : Option Value) (h : Heap) (L : List Loc) : Prop := v = some (.int (v1 - v0)) ∧ Fr n0 L ∧ h = h0
theorem ef_rm4_0 (m : MethodId) (a1 : Addr) : entryFrame m #[(.ref a1), (.int (0 : Int32))] 2 = mkF m 0 #[.val (.ref a1), .val (.int (0 : Int32))] [] := by first | (simp [entryFrame, mkF, argsToLocals, Value.category]; done) | rfl
set_option maxRecDepth 65536 in
set_option maxHeartbeats 40000000 in
theorem rm4_0 (l : Launch) (Z : State) (a0 : Array Value) (hw : ∀ d ∈ tables_1, d.before a0 Z = true) (ws : List Jvm.Cond) (a1 : Addr) (ss : Addr) (ks : ClassId) (v0 : Int32) (v1 : Int32) (v2 : Int32) (v3 : Int32) (h0 : Heap) (n0 : Nat) (Z0 : n0 ≤ h0.size) (pf_F_a1_com_example_nosograph_nosograph_input_ByteStrings_starts : Fld Z h0 a1 "com/example/nosograph/nosograph/input/ByteStrings" "starts" "[I" (.ref ss)) (pf_V_ss : Arv Z h0 ss ks .int (4 : Int32) [(.int v0), (.int v1), (.int v2), (.int v3)] (.int (0 : Int32))) :
    MetFree l (⟨"com/example/nosograph/nosograph/input/ByteStrings", "length", "(I)I"⟩ : MethodName) (head1 (Jvm.Cond.code (⟨"com/example/nosograph/nosograph/input/ByteStrings", "length", "(I)I"⟩ : MethodName) prog_11_method_7_code 2 (some .int) :: ws) ({ frames := 0, cells := 0, slots := 0, locals := 0 } : Room)) (fun a U => a = #[(.ref a1), (.int (0 : Int32))] ∧ Z.Warmed39 U.vm ∧ U.heap = h0) (fun _ _ _ _ _ => True) (fun _ U o U' => ∃ v L, o = .returned v ∧ Q_rm4_0 Z a1 ss ks v0 v1 v2 v3 h0 n0 v U'.heap L ∧ FrameEnd U o U' L ({ frames := 0, cells := 0, slots := 0, locals := 0 } : Room).cells ({ frames := 0, cells := 0, slots := 0, locals := 0 } : Room).slots) := by
  refine MetFree.of_bodySF (plainFor_of_name pn_2) hisR ?_
  intro p e s m args below meth c s₁ Bd hml0 hP hK
  obtain ⟨rfl, hZ, hh⟩ := hP
  have hx := Bd.exec
  have hby := Bd.bytes
  have hml : c.maxLocals = 2 := hml0
  have hown : s.vm.findClass "com/example/nosograph/nosograph/input/ByteStrings" = some m.cls := findClass_of_methodNamed Bd.named
  have hnm := (name_of_methodNamed Bd.named Bd.method).1
  have X0 : Stand p l e ({ frames := 0, cells := 0, slots := 0, locals := 0 } : Room) s m #[(.ref a1), (.int (0 : Int32))] below meth c s₁ [] 0 0 := Stand.of_body Bd
  have e0 : s₁.heap = h0 := by rw [← hh, Bd.state]; rfl
  have N0 := Fr.nil n0
  show Goes p e below s (Q_rm4_0 Z a1 ss ks v0 v1 v2 v3 h0 n0) ({ frames := 0, cells := 0, slots := 0, locals := 0 } : Room).cells ({ frames := 0, cells := 0, slots := 0, locals := 0 } : Room).slots (s₁.setTop (entryFrame m #[(.ref a1), (.int (0 : Int32))] 2))
  refine Goes.pre (fun t kt => castTop (ef_rm4_0 m a1) kt) ?_
  show Goes p e below s _ _ _ (s₁.setTop (mkF m 0 #[.val (.ref a1), .val (.int (0 : Int32))] []))
  refine Goes.pre (fun t kt => XS.aloadN X0.here hx rfl (hb hby d4_0) rfl rfl kt) ?_
  show Goes p e below s _ _ _ (s₁.setTop (mkF m 1 #[.val (.ref a1), .val (.int (0 : Int32))] [(.ref a1)]))
  obtain ⟨T1, X1, e1, st1⟩ := getF X0 hx hZ hown (host := "") (Or.inl (hw _ (List.mem_of_getElem? (i := 18) rfl))) Via.refl e0 pf_F_a1_com_example_nosograph_nosograph_input_ByteStrings_starts (g := (mkF m 1 #[.val (.ref a1), .val (.int (0 : Int32))] [(.ref a1)])) rfl rfl (hb hby d4_1)
  refine Goes.pre st1 ?_
  show Goes p e below s _ _ _ (T1.setTop (mkF m 4 #[.val (.ref a1), .val (.int (0 : Int32))] [(.ref ss)]))
  refine Goes.pre (fun t kt => XS.iloadN X1.here hx rfl (hb hby d4_4) rfl kt) ?_
  show Goes p e below s _ _ _ (T1.setTop (mkF m 5 #[.val (.ref a1), .val (.int (0 : Int32))] [(.int (0 : Int32)), (.ref ss)]))
  refine Goes.pre (fun t kt => XS.iconst X1.here hx rfl (hb hby d4_5) kt) ?_
  show Goes p e below s _ _ _ (T1.setTop (mkF m 6 #[.val (.ref a1), .val (.int (0 : Int32))] [(.int (1 : Int32)), (.int (0 : Int32)), (.ref ss)]))
  refine Goes.pre (fun t kt => XS.iadd X1.here hx rfl (hb hby d4_6) rfl kt) ?_
  show Goes p e below s _ _ _ (T1.setTop (mkF m 7 #[.val (.ref a1), .val (.int (0 : Int32))] [(.int (1 : Int32)), (.ref ss)]))
  obtain ⟨cl2, Ar2, aq2, aS2, aN2, aH2, aG2⟩ := pf_V_ss
  have V2 : Arv Z h0 ss ks .int (4 : Int32) [(.int v0), (.int v1), (.int v2), (.int v3)] (.int (0 : Int32)) := ⟨cl2, Ar2, aq2, aS2, aN2, aH2, aG2⟩
  have hin2 : ¬ ((1 : Int32) < 0 ∨ cl2.slots.size ≤ ((1 : Int32)).toNatClampNeg) := inb_of aS2 ⟨by decide, by decide⟩
  have hat2 : cl2.slots[((1 : Int32)).toNatClampNeg]? = some (.int v1) := aH2.at hin2 rfl
  refine Goes.pre (X1.iaload hx (j := (1 : Int32)) (v := (.int v1)) (by rw [e1]; exact Ar2.1) (State.isArrayOf_alike hZ.alike Ar2.2.1) Ar2.2.2 hin2 hat2 (g := (mkF m 7 #[.val (.ref a1), .val (.int (0 : Int32))] [(.int (1 : Int32)), (.ref ss)])) rfl rfl (hb hby d4_7)) ?_
  show Goes p e below s _ _ _ (T1.setTop (mkF m 8 #[.val (.ref a1), .val (.int (0 : Int32))] [(.int v1)]))
  refine Goes.pre (fun t kt => XS.aloadN X1.here hx rfl (hb hby d4_8) rfl rfl kt) ?_
  show Goes p e below s _ _ _ (T1.setTop (mkF m 9 #[.val (.ref a1), .val (.int (0 : Int32))] [(.ref a1), (.int v1)]))
  obtain ⟨T3, X3, e3, st3⟩ := getF X1 hx hZ hown (host := "") (Or.inl (hw _ (List.mem_of_getElem? (i := 18) rfl))) Via.refl e1 pf_F_a1_com_example_nosograph_nosograph_input_ByteStrings_starts (g := (mkF m 9 #[.val (.ref a1), .val (.int (0 : Int32))] [(.ref a1), (.int v1)])) rfl rfl (hb hby d4_9)
  refine Goes.pre st3 ?_
  show Goes p e below s _ _ _ (T3.setTop (mkF m 12 #[.val (.ref a1), .val (.int (0 : Int32))] [(.ref ss), (.int v1)]))
  refine Goes.pre (fun t kt => XS.iloadN X3.here hx rfl (hb hby d4_12) rfl kt) ?_
  show Goes p e below s _ _ _ (T3.setTop (mkF m 13 #[.val (.ref a1), .val (.int (0 : Int32))] [(.int (0 : Int32)), (.ref ss), (.int v1)]))
  obtain ⟨cl4, Ar4, aq4, aS4, aN4, aH4, aG4⟩ := V2
  have V4 : Arv Z h0 ss ks .int (4 : Int32) [(.int v0), (.int v1), (.int v2), (.int v3)] (.int (0 : Int32)) := ⟨cl4, Ar4, aq4, aS4, aN4, aH4, aG4⟩
  have hin4 : ¬ ((0 : Int32) < 0 ∨ cl4.slots.size ≤ ((0 : Int32)).toNatClampNeg) := inb_of aS4 ⟨by decide, by decide⟩
  have hat4 : cl4.slots[((0 : Int32)).toNatClampNeg]? = some (.int v0) := aH4.at hin4 rfl
  refine Goes.pre (X3.iaload hx (j := (0 : Int32)) (v := (.int v0)) (by rw [e3]; exact Ar4.1) (State.isArrayOf_alike hZ.alike Ar4.2.1) Ar4.2.2 hin4 hat4 (g := (mkF m 13 #[.val (.ref a1), .val (.int (0 : Int32))] [(.int (0 : Int32)), (.ref ss), (.int v1)])) rfl rfl (hb hby d4_13)) ?_
  show Goes p e below s _ _ _ (T3.setTop (mkF m 14 #[.val (.ref a1), .val (.int (0 : Int32))] [(.int v0), (.int v1)]))
  refine Goes.pre (fun t kt => XS.isub X3.here hx rfl (hb hby d4_14) rfl kt) ?_
  show Goes p e below s _ _ _ (T3.setTop (mkF m 15 #[.val (.ref a1), .val (.int (0 : Int32))] [(.int (v1 - v0))]))
  refine Goes.ret X3 (some (.int (v1 - v0))) (fun h => by rw [Bd.returns] at h; cases h) (BodyLoose.notSynchronized Bd) (by decide) (by decide) (fun fs hr => retOut X3 hx (t := .int) Bd.returns rfl (Or.inl ⟨rfl, Or.inl rfl, _, rfl⟩) (hb hby d4_15) hr) ?_
  show Q_rm4_0 Z a1 ss ks v0 v1 v2 v3 h0 n0 _ T3.heap _
  rw [e3]
  exact ⟨rfl, N0, rfl⟩
def Q_rm4_1 (Z : State) (a1 : Addr) (ss : Addr) (ks : ClassId) (v0 : Int32) (v1 : Int32) (v2 : Int32) (v3 : Int32) (h0 : Heap) (n0 : Nat) (v : Option Value) (h : Heap) (L : List Loc) : Prop := v = some (.int (v2 - v1)) ∧ Fr n0 L ∧ h = h0
theorem ef_rm4_1 (m : MethodId) (a1 : Addr) : entryFrame m #[(.ref a1), (.int (1 : Int32))] 2 = mkF m 0 #[.val (.ref a1), .val (.int (1 : Int32))] [] := by first | (simp [entryFrame, mkF, argsToLocals, Value.category]; done) | rfl
set_option maxRecDepth 65536 in
set_option maxHeartbeats 40000000 in
theorem rm4_1 (l : Launch) (Z : State) (a0 : Array Value) (hw : ∀ d ∈ tables_1, d.before a0 Z = true) (ws : List Jvm.Cond) (a1 : Addr) (ss : Addr) (ks : ClassId) (v0 : Int32) (v1 : Int32) (v2 : Int32) (v3 : Int32) (h0 : Heap) (n0 : Nat) (Z0 : n0 ≤ h0.size) (pf_F_a1_com_example_nosograph_nosograph_input_ByteStrings_starts : Fld Z h0 a1 "com/example/nosograph/nosograph/input/ByteStrings" "starts" "[I" (.ref ss)) (pf_V_ss : Arv Z h0 ss ks .int (4 : Int32) [(.int v0), (.int v1), (.int v2), (.int v3)] (.int (0 : Int32))) :
    MetFree l (⟨"com/example/nosograph/nosograph/input/ByteStrings", "length", "(I)I"⟩ : MethodName) (head1 (Jvm.Cond.code (⟨"com/example/nosograph/nosograph/input/ByteStrings", "length", "(I)I"⟩ : MethodName) prog_11_method_7_code 2 (some .int) :: ws) ({ frames := 0, cells := 0, slots := 0, locals := 0 } : Room)) (fun a U => a = #[(.ref a1), (.int (1 : Int32))] ∧ Z.Warmed39 U.vm ∧ U.heap = h0) (fun _ _ _ _ _ => True) (fun _ U o U' => ∃ v L, o = .returned v ∧ Q_rm4_1 Z a1 ss ks v0 v1 v2 v3 h0 n0 v U'.heap L ∧ FrameEnd U o U' L ({ frames := 0, cells := 0, slots := 0, locals := 0 } : Room).cells ({ frames := 0, cells := 0, slots := 0, locals := 0 } : Room).slots) := by
  refine MetFree.of_bodySF (plainFor_of_name pn_2) hisR ?_
  intro p e s m args below meth c s₁ Bd hml0 hP hK
  obtain ⟨rfl, hZ, hh⟩ := hP
  have hx := Bd.exec
  have hby := Bd.bytes
  have hml : c.maxLocals = 2 := hml0
  have hown : s.vm.findClass "com/example/nosograph/nosograph/input/ByteStrings" = some m.cls := findClass_of_methodNamed Bd.named
  have hnm := (name_of_methodNamed Bd.named Bd.method).1
  have X0 : Stand p l e ({ frames := 0, cells := 0, slots := 0, locals := 0 } : Room) s m #[(.ref a1), (.int (1 : Int32))] below meth c s₁ [] 0 0 := Stand.of_body Bd
  have e0 : s₁.heap = h0 := by rw [← hh, Bd.state]; rfl
  have N0 := Fr.nil n0
  show Goes p e below s (Q_rm4_1 Z a1 ss ks v0 v1 v2 v3 h0 n0) ({ frames := 0, cells := 0, slots := 0, locals := 0 } : Room).cells ({ frames := 0, cells := 0, slots := 0, locals := 0 } : Room).slots (s₁.setTop (entryFrame m #[(.ref a1), (.int (1 : Int32))] 2))
  refine Goes.pre (fun t kt => castTop (ef_rm4_1 m a1) kt) ?_
  show Goes p e below s _ _ _ (s₁.setTop (mkF m 0 #[.val (.ref a1), .val (.int (1 : Int32))] []))
  refine Goes.pre (fun t kt => XS.aloadN X0.here hx rfl (hb hby d4_0) rfl rfl kt) ?_
  show Goes p e below s _ _ _ (s₁.setTop (mkF m 1 #[.val (.ref a1), .val (.int (1 : Int32))] [(.ref a1)]))
  obtain ⟨T1, X1, e1, st1⟩ := getF X0 hx hZ hown (host := "") (Or.inl (hw _ (List.mem_of_getElem? (i := 18) rfl))) Via.refl e0 pf_F_a1_com_example_nosograph_nosograph_input_ByteStrings_starts (g := (mkF m 1 #[.val (.ref a1), .val (.int (1 : Int32))] [(.ref a1)])) rfl rfl (hb hby d4_1)
  refine Goes.pre st1 ?_
  show Goes p e below s _ _ _ (T1.setTop (mkF m 4 #[.val (.ref a1), .val (.int (1 : Int32))] [(.ref ss)]))
  refine Goes.pre (fun t kt => XS.iloadN X1.here hx rfl (hb hby d4_4) rfl kt) ?_
  show Goes p e below s _ _ _ (T1.setTop (mkF m 5 #[.val (.ref a1), .val (.int (1 : Int32))] [(.int (1 : Int32)), (.ref ss)]))
  refine Goes.pre (fun t kt => XS.iconst X1.here hx rfl (hb hby d4_5) kt) ?_
  show Goes p e below s _ _ _ (T1.setTop (mkF m 6 #[.val (.ref a1), .val (.int (1 : Int32))] [(.int (1 : Int32)), (.int (1 : Int32)), (.ref ss)]))
  refine Goes.pre (fun t kt => XS.iadd X1.here hx rfl (hb hby d4_6) rfl kt) ?_
  show Goes p e below s _ _ _ (T1.setTop (mkF m 7 #[.val (.ref a1), .val (.int (1 : Int32))] [(.int (2 : Int32)), (.ref ss)]))
  obtain ⟨cl2, Ar2, aq2, aS2, aN2, aH2, aG2⟩ := pf_V_ss
  have V2 : Arv Z h0 ss ks .int (4 : Int32) [(.int v0), (.int v1), (.int v2), (.int v3)] (.int (0 : Int32)) := ⟨cl2, Ar2, aq2, aS2, aN2, aH2, aG2⟩
  have hin2 : ¬ ((2 : Int32) < 0 ∨ cl2.slots.size ≤ ((2 : Int32)).toNatClampNeg) := inb_of aS2 ⟨by decide, by decide⟩
  have hat2 : cl2.slots[((2 : Int32)).toNatClampNeg]? = some (.int v2) := aH2.at hin2 rfl
  refine Goes.pre (X1.iaload hx (j := (2 : Int32)) (v := (.int v2)) (by rw [e1]; exact Ar2.1) (State.isArrayOf_alike hZ.alike Ar2.2.1) Ar2.2.2 hin2 hat2 (g := (mkF m 7 #[.val (.ref a1), .val (.int (1 : Int32))] [(.int (2 : Int32)), (.ref ss)])) rfl rfl (hb hby d4_7)) ?_
  show Goes p e below s _ _ _ (T1.setTop (mkF m 8 #[.val (.ref a1), .val (.int (1 : Int32))] [(.int v2)]))
  refine Goes.pre (fun t kt => XS.aloadN X1.here hx rfl (hb hby d4_8) rfl rfl kt) ?_
  show Goes p e below s _ _ _ (T1.setTop (mkF m 9 #[.val (.ref a1), .val (.int (1 : Int32))] [(.ref a1), (.int v2)]))
  obtain ⟨T3, X3, e3, st3⟩ := getF X1 hx hZ hown (host := "") (Or.inl (hw _ (List.mem_of_getElem? (i := 18) rfl))) Via.refl e1 pf_F_a1_com_example_nosograph_nosograph_input_ByteStrings_starts (g := (mkF m 9 #[.val (.ref a1), .val (.int (1 : Int32))] [(.ref a1), (.int v2)])) rfl rfl (hb hby d4_9)
  refine Goes.pre st3 ?_
  show Goes p e below s _ _ _ (T3.setTop (mkF m 12 #[.val (.ref a1), .val (.int (1 : Int32))] [(.ref ss), (.int v2)]))
  refine Goes.pre (fun t kt => XS.iloadN X3.here hx rfl (hb hby d4_12) rfl kt) ?_
  show Goes p e below s _ _ _ (T3.setTop (mkF m 13 #[.val (.ref a1), .val (.int (1 : Int32))] [(.int (1 : Int32)), (.ref ss), (.int v2)]))
  obtain ⟨cl4, Ar4, aq4, aS4, aN4, aH4, aG4⟩ := V2
  have V4 : Arv Z h0 ss ks .int (4 : Int32) [(.int v0), (.int v1), (.int v2), (.int v3)] (.int (0 : Int32)) := ⟨cl4, Ar4, aq4, aS4, aN4, aH4, aG4⟩
  have hin4 : ¬ ((1 : Int32) < 0 ∨ cl4.slots.size ≤ ((1 : Int32)).toNatClampNeg) := inb_of aS4 ⟨by decide, by decide⟩
  have hat4 : cl4.slots[((1 : Int32)).toNatClampNeg]? = some (.int v1) := aH4.at hin4 rfl
  refine Goes.pre (X3.iaload hx (j := (1 : Int32)) (v := (.int v1)) (by rw [e3]; exact Ar4.1) (State.isArrayOf_alike hZ.alike Ar4.2.1) Ar4.2.2 hin4 hat4 (g := (mkF m 13 #[.val (.ref a1), .val (.int (1 : Int32))] [(.int (1 : Int32)), (.ref ss), (.int v2)])) rfl rfl (hb hby d4_13)) ?_
  show Goes p e below s _ _ _ (T3.setTop (mkF m 14 #[.val (.ref a1), .val (.int (1 : Int32))] [(.int v1), (.int v2)]))
  refine Goes.pre (fun t kt => XS.isub X3.here hx rfl (hb hby d4_14) rfl kt) ?_
  show Goes p e below s _ _ _ (T3.setTop (mkF m 15 #[.val (.ref a1), .val (.int (1 : Int32))] [(.int (v2 - v1))]))
  refine Goes.ret X3 (some (.int (v2 - v1))) (fun h => by rw [Bd.returns] at h; cases h) (BodyLoose.notSynchronized Bd) (by decide) (by decide) (fun fs hr => retOut X3 hx (t := .int) Bd.returns rfl (Or.inl ⟨rfl, Or.inl rfl, _, rfl⟩) (hb hby d4_15) hr) ?_
  show Q_rm4_1 Z a1 ss ks v0 v1 v2 v3 h0 n0 _ T3.heap _
  rw [e3]
  exact ⟨rfl, N0, rfl⟩
def Q_rm4_2 (Z : State) (a1 : Addr) (ss : Addr) (ks : ClassId) (v0 : Int32) (v1 : Int32) (v2 : Int32) (v3 : Int32) (h0 : Heap) (n0 : Nat) (v : Option Value) (h : Heap) (L : List Loc) : Prop := v = some (.int (v3 - v2)) ∧ Fr n0 L ∧ h = h0
theorem ef_rm4_2 (m : MethodId) (a1 : Addr) : entryFrame m #[(.ref a1), (.int (2 : Int32))] 2 = mkF m 0 #[.val (.ref a1), .val (.int (2 : Int32))] [] := by first | (simp [entryFrame, mkF, argsToLocals, Value.category]; done) | rfl
set_option maxRecDepth 65536 in
set_option maxHeartbeats 40000000 in
theorem rm4_2 (l : Launch) (Z : State) (a0 : Array Value) (hw : ∀ d ∈ tables_1, d.before a0 Z = true) (ws : List Jvm.Cond) (a1 : Addr) (ss : Addr) (ks : ClassId) (v0 : Int32) (v1 : Int32) (v2 : Int32) (v3 : Int32) (h0 : Heap) (n0 : Nat) (Z0 : n0 ≤ h0.size) (pf_F_a1_com_example_nosograph_nosograph_input_ByteStrings_starts : Fld Z h0 a1 "com/example/nosograph/nosograph/input/ByteStrings" "starts" "[I" (.ref ss)) (pf_V_ss : Arv Z h0 ss ks .int (4 : Int32) [(.int v0), (.int v1), (.int v2), (.int v3)] (.int (0 : Int32))) :
    MetFree l (⟨"com/example/nosograph/nosograph/input/ByteStrings", "length", "(I)I"⟩ : MethodName) (head1 (Jvm.Cond.code (⟨"com/example/nosograph/nosograph/input/ByteStrings", "length", "(I)I"⟩ : MethodName) prog_11_method_7_code 2 (some .int) :: ws) ({ frames := 0, cells := 0, slots := 0, locals := 0 } : Room)) (fun a U => a = #[(.ref a1), (.int (2 : Int32))] ∧ Z.Warmed39 U.vm ∧ U.heap = h0) (fun _ _ _ _ _ => True) (fun _ U o U' => ∃ v L, o = .returned v ∧ Q_rm4_2 Z a1 ss ks v0 v1 v2 v3 h0 n0 v U'.heap L ∧ FrameEnd U o U' L ({ frames := 0, cells := 0, slots := 0, locals := 0 } : Room).cells ({ frames := 0, cells := 0, slots := 0, locals := 0 } : Room).slots) := by
  refine MetFree.of_bodySF (plainFor_of_name pn_2) hisR ?_
  intro p e s m args below meth c s₁ Bd hml0 hP hK
  obtain ⟨rfl, hZ, hh⟩ := hP
  have hx := Bd.exec
  have hby := Bd.bytes
  have hml : c.maxLocals = 2 := hml0
  have hown : s.vm.findClass "com/example/nosograph/nosograph/input/ByteStrings" = some m.cls := findClass_of_methodNamed Bd.named
  have hnm := (name_of_methodNamed Bd.named Bd.method).1
  have X0 : Stand p l e ({ frames := 0, cells := 0, slots := 0, locals := 0 } : Room) s m #[(.ref a1), (.int (2 : Int32))] below meth c s₁ [] 0 0 := Stand.of_body Bd
  have e0 : s₁.heap = h0 := by rw [← hh, Bd.state]; rfl
  have N0 := Fr.nil n0
  show Goes p e below s (Q_rm4_2 Z a1 ss ks v0 v1 v2 v3 h0 n0) ({ frames := 0, cells := 0, slots := 0, locals := 0 } : Room).cells ({ frames := 0, cells := 0, slots := 0, locals := 0 } : Room).slots (s₁.setTop (entryFrame m #[(.ref a1), (.int (2 : Int32))] 2))
  refine Goes.pre (fun t kt => castTop (ef_rm4_2 m a1) kt) ?_
  show Goes p e below s _ _ _ (s₁.setTop (mkF m 0 #[.val (.ref a1), .val (.int (2 : Int32))] []))
  refine Goes.pre (fun t kt => XS.aloadN X0.here hx rfl (hb hby d4_0) rfl rfl kt) ?_
  show Goes p e below s _ _ _ (s₁.setTop (mkF m 1 #[.val (.ref a1), .val (.int (2 : Int32))] [(.ref a1)]))
  obtain ⟨T1, X1, e1, st1⟩ := getF X0 hx hZ hown (host := "") (Or.inl (hw _ (List.mem_of_getElem? (i := 18) rfl))) Via.refl e0 pf_F_a1_com_example_nosograph_nosograph_input_ByteStrings_starts (g := (mkF m 1 #[.val (.ref a1), .val (.int (2 : Int32))] [(.ref a1)])) rfl rfl (hb hby d4_1)
  refine Goes.pre st1 ?_
  show Goes p e below s _ _ _ (T1.setTop (mkF m 4 #[.val (.ref a1), .val (.int (2 : Int32))] [(.ref ss)]))
  refine Goes.pre (fun t kt => XS.iloadN X1.here hx rfl (hb hby d4_4) rfl kt) ?_
  show Goes p e below s _ _ _ (T1.setTop (mkF m 5 #[.val (.ref a1), .val (.int (2 : Int32))] [(.int (2 : Int32)), (.ref ss)]))
  refine Goes.pre (fun t kt => XS.iconst X1.here hx rfl (hb hby d4_5) kt) ?_
  show Goes p e below s _ _ _ (T1.setTop (mkF m 6 #[.val (.ref a1), .val (.int (2 : Int32))] [(.int (1 : Int32)), (.int (2 : Int32)), (.ref ss)]))
  refine Goes.pre (fun t kt => XS.iadd X1.here hx rfl (hb hby d4_6) rfl kt) ?_
  show Goes p e below s _ _ _ (T1.setTop (mkF m 7 #[.val (.ref a1), .val (.int (2 : Int32))] [(.int (3 : Int32)), (.ref ss)]))
  obtain ⟨cl2, Ar2, aq2, aS2, aN2, aH2, aG2⟩ := pf_V_ss
  have V2 : Arv Z h0 ss ks .int (4 : Int32) [(.int v0), (.int v1), (.int v2), (.int v3)] (.int (0 : Int32)) := ⟨cl2, Ar2, aq2, aS2, aN2, aH2, aG2⟩
  have hin2 : ¬ ((3 : Int32) < 0 ∨ cl2.slots.size ≤ ((3 : Int32)).toNatClampNeg) := inb_of aS2 ⟨by decide, by decide⟩
  have hat2 : cl2.slots[((3 : Int32)).toNatClampNeg]? = some (.int v3) := aH2.at hin2 rfl
  refine Goes.pre (X1.iaload hx (j := (3 : Int32)) (v := (.int v3)) (by rw [e1]; exact Ar2.1) (State.isArrayOf_alike hZ.alike Ar2.2.1) Ar2.2.2 hin2 hat2 (g := (mkF m 7 #[.val (.ref a1), .val (.int (2 : Int32))] [(.int (3 : Int32)), (.ref ss)])) rfl rfl (hb hby d4_7)) ?_
  show Goes p e below s _ _ _ (T1.setTop (mkF m 8 #[.val (.ref a1), .val (.int (2 : Int32))] [(.int v3)]))
  refine Goes.pre (fun t kt => XS.aloadN X1.here hx rfl (hb hby d4_8) rfl rfl kt) ?_
  show Goes p e below s _ _ _ (T1.setTop (mkF m 9 #[.val (.ref a1), .val (.int (2 : Int32))] [(.ref a1), (.int v3)]))
  obtain ⟨T3, X3, e3, st3⟩ := getF X1 hx hZ hown (host := "") (Or.inl (hw _ (List.mem_of_getElem? (i := 18) rfl))) Via.refl e1 pf_F_a1_com_example_nosograph_nosograph_input_ByteStrings_starts (g := (mkF m 9 #[.val (.ref a1), .val (.int (2 : Int32))] [(.ref a1), (.int v3)])) rfl rfl (hb hby d4_9)
  refine Goes.pre st3 ?_
  show Goes p e below s _ _ _ (T3.setTop (mkF m 12 #[.val (.ref a1), .val (.int (2 : Int32))] [(.ref ss), (.int v3)]))
  refine Goes.pre (fun t kt => XS.iloadN X3.here hx rfl (hb hby d4_12) rfl kt) ?_
  show Goes p e below s _ _ _ (T3.setTop (mkF m 13 #[.val (.ref a1), .val (.int (2 : Int32))] [(.int (2 : Int32)), (.ref ss), (.int v3)]))
  obtain ⟨cl4, Ar4, aq4, aS4, aN4, aH4, aG4⟩ := V2
  have V4 : Arv Z h0 ss ks .int (4 : Int32) [(.int v0), (.int v1), (.int v2), (.int v3)] (.int (0 : Int32)) := ⟨cl4, Ar4, aq4, aS4, aN4, aH4, aG4⟩
  have hin4 : ¬ ((2 : Int32) < 0 ∨ cl4.slots.size ≤ ((2 : Int32)).toNatClampNeg) := inb_of aS4 ⟨by decide, by decide⟩
  have hat4 : cl4.slots[((2 : Int32)).toNatClampNeg]? = some (.int v2) := aH4.at hin4 rfl
  refine Goes.pre (X3.iaload hx (j := (2 : Int32)) (v := (.int v2)) (by rw [e3]; exact Ar4.1) (State.isArrayOf_alike hZ.alike Ar4.2.1) Ar4.2.2 hin4 hat4 (g := (mkF m 13 #[.val (.ref a1), .val (.int (2 : Int32))] [(.int (2 : Int32)), (.ref ss), (.int v3)])) rfl rfl (hb hby d4_13)) ?_
  show Goes p e below s _ _ _ (T3.setTop (mkF m 14 #[.val (.ref a1), .val (.int (2 : Int32))] [(.int v2), (.int v3)]))
  refine Goes.pre (fun t kt => XS.isub X3.here hx rfl (hb hby d4_14) rfl kt) ?_
  show Goes p e below s _ _ _ (T3.setTop (mkF m 15 #[.val (.ref a1), .val (.int (2 : Int32))] [(.int (v3 - v2))]))
  refine Goes.ret X3 (some (.int (v3 - v2))) (fun h => by rw [Bd.returns] at h; cases h) (BodyLoose.notSynchronized Bd) (by decide) (by decide) (fun fs hr => retOut X3 hx (t := .int) Bd.returns rfl (Or.inl ⟨rfl, Or.inl rfl, _, rfl⟩) (hb hby d4_15) hr) ?_
  show Q_rm4_2 Z a1 ss ks v0 v1 v2 v3 h0 n0 _ T3.heap _
  rw [e3]
  exact ⟨rfl, N0, rfl⟩
theorem pd_3 : parseMethodDescriptor "([B[I)V" = some ⟨[(.array .byte), (.array .int)], none⟩ := by decide +kernel
theorem pd_4 : parseMethodDescriptor "(I)I" = some ⟨[.int], some .int⟩ := by decide +kernel
theorem pn_5 : plainName "com/example/nosograph/nosograph/input/ByteStringsLengthPinLaw" = true := by first | (simp [plainName, overriddenIn]; done) | decide +kernel
def Q_rm0 (Z : State) (p1 : Int32) (p2 : Int32) (p3 : Int32) (h0 : Heap) (n0 : Nat) (v : Option Value) (h : Heap) (L : List Loc) : Prop := v = some (.int (1 : Int32)) ∧ Fr n0 L
theorem ef_rm0 (m : MethodId) (p1 : Int32) (p2 : Int32) (p3 : Int32) : entryFrame m #[(.int p1), (.int p2), (.int p3)] maxLocals = mkF m 0 #[.val (.int p1), .val (.int p2), .val (.int p3), .unset, .unset, .unset, .unset, .unset, .unset] [] := by first | (simp [entryFrame, mkF, argsToLocals, Value.category, maxLocals]; done) | rfl
set_option maxRecDepth 65536 in
set_option maxHeartbeats 40000000 in
theorem rm0 (l : Launch) (Z : State) (a0 : Array Value) (hw : ∀ d ∈ tables_1, d.before a0 Z = true) (ws : List Jvm.Cond) (p1 : Int32) (p2 : Int32) (p3 : Int32) (h0 : Heap) (n0 : Nat) (Z0 : n0 ≤ h0.size) :
    MetFree l x (head1 (Jvm.Cond.code x code maxLocals ret :: ws) room_1) (fun a U => a = #[(.int p1), (.int p2), (.int p3)] ∧ Z.Warmed39 U.vm ∧ U.heap = h0) (fun _ _ _ _ _ => True) (fun _ U o U' => ∃ v L, o = .returned v ∧ Q_rm0 Z p1 p2 p3 h0 n0 v U'.heap L ∧ FrameEnd U o U' L room_1.cells room_1.slots) := by
  refine MetFree.of_bodySF (plainFor_of_name pn_5) hisR ?_
  intro p e s m args below meth c s₁ Bd hml0 hP hK
  obtain ⟨rfl, hZ, hh⟩ := hP
  have hx := Bd.exec
  have hby := Bd.bytes
  have hml : c.maxLocals = 9 := hml0
  have hown : s.vm.findClass "com/example/nosograph/nosograph/input/ByteStringsLengthPinLaw" = some m.cls := findClass_of_methodNamed Bd.named
  have hnm := (name_of_methodNamed Bd.named Bd.method).1
  have X0 : Stand p l e room_1 s m #[(.int p1), (.int p2), (.int p3)] below meth c s₁ [] 0 0 := Stand.of_body Bd
  have e0 : s₁.heap = h0 := by rw [← hh, Bd.state]; rfl
  have N0 := Fr.nil n0
  show Goes p e below s (Q_rm0 Z p1 p2 p3 h0 n0) room_1.cells room_1.slots (s₁.setTop (entryFrame m #[(.int p1), (.int p2), (.int p3)] maxLocals))
  refine Goes.pre (fun t kt => castTop (ef_rm0 m p1 p2 p3) kt) ?_
  show Goes p e below s _ _ _ (s₁.setTop (mkF m 0 #[.val (.int p1), .val (.int p2), .val (.int p3), .unset, .unset, .unset, .unset, .unset, .unset] []))
  refine Goes.pre (fun t kt => XS.iloadN X0.here hx rfl (hb hby at_0) rfl kt) ?_
  show Goes p e below s _ _ _ (s₁.setTop (mkF m 1 #[.val (.int p1), .val (.int p2), .val (.int p3), .unset, .unset, .unset, .unset, .unset, .unset] [(.int p1)]))
  refine Goes.pre (fun t kt => XS.bipush X0.here hx rfl (hb hby at_1) kt) ?_
  show Goes p e below s _ _ _ (s₁.setTop (mkF m 3 #[.val (.int p1), .val (.int p2), .val (.int p3), .unset, .unset, .unset, .unset, .unset, .unset] [(.int (15 : Int32)), (.int p1)]))
  refine Goes.pre (fun t kt => XS.iand X0.here hx rfl (hb hby at_3) rfl kt) ?_
  show Goes p e below s _ _ _ (s₁.setTop (mkF m 4 #[.val (.int p1), .val (.int p2), .val (.int p3), .unset, .unset, .unset, .unset, .unset, .unset] [(.int (p1 &&& (15 : Int32)))]))
  refine Goes.pre (fun t kt => XS.istoreN X0.here hx rfl (hb hby at_4) rfl (l' := #[.val (.int p1), .val (.int p2), .val (.int p3), .val (.int (p1 &&& (15 : Int32))), .unset, .unset, .unset, .unset, .unset]) rfl kt) ?_
  show Goes p e below s _ _ _ (s₁.setTop (mkF m 5 #[.val (.int p1), .val (.int p2), .val (.int p3), .val (.int (p1 &&& (15 : Int32))), .unset, .unset, .unset, .unset, .unset] []))
  refine Goes.pre (fun t kt => XS.iloadN X0.here hx rfl (hb hby at_5) rfl kt) ?_
  show Goes p e below s _ _ _ (s₁.setTop (mkF m 6 #[.val (.int p1), .val (.int p2), .val (.int p3), .val (.int (p1 &&& (15 : Int32))), .unset, .unset, .unset, .unset, .unset] [(.int p2)]))
  refine Goes.pre (fun t kt => XS.bipush X0.here hx rfl (hb hby at_6) kt) ?_
  show Goes p e below s _ _ _ (s₁.setTop (mkF m 8 #[.val (.int p1), .val (.int p2), .val (.int p3), .val (.int (p1 &&& (15 : Int32))), .unset, .unset, .unset, .unset, .unset] [(.int (15 : Int32)), (.int p2)]))
  refine Goes.pre (fun t kt => XS.iand X0.here hx rfl (hb hby at_8) rfl kt) ?_
  show Goes p e below s _ _ _ (s₁.setTop (mkF m 9 #[.val (.int p1), .val (.int p2), .val (.int p3), .val (.int (p1 &&& (15 : Int32))), .unset, .unset, .unset, .unset, .unset] [(.int (p2 &&& (15 : Int32)))]))
  refine Goes.pre (fun t kt => XS.istore X0.here hx rfl (hb hby at_9) rfl (l' := #[.val (.int p1), .val (.int p2), .val (.int p3), .val (.int (p1 &&& (15 : Int32))), .val (.int (p2 &&& (15 : Int32))), .unset, .unset, .unset, .unset]) rfl kt) ?_
  show Goes p e below s _ _ _ (s₁.setTop (mkF m 11 #[.val (.int p1), .val (.int p2), .val (.int p3), .val (.int (p1 &&& (15 : Int32))), .val (.int (p2 &&& (15 : Int32))), .unset, .unset, .unset, .unset] []))
  refine Goes.pre (fun t kt => XS.iloadN X0.here hx rfl (hb hby at_11) rfl kt) ?_
  show Goes p e below s _ _ _ (s₁.setTop (mkF m 12 #[.val (.int p1), .val (.int p2), .val (.int p3), .val (.int (p1 &&& (15 : Int32))), .val (.int (p2 &&& (15 : Int32))), .unset, .unset, .unset, .unset] [(.int p3)]))
  refine Goes.pre (fun t kt => XS.bipush X0.here hx rfl (hb hby at_12) kt) ?_
  show Goes p e below s _ _ _ (s₁.setTop (mkF m 14 #[.val (.int p1), .val (.int p2), .val (.int p3), .val (.int (p1 &&& (15 : Int32))), .val (.int (p2 &&& (15 : Int32))), .unset, .unset, .unset, .unset] [(.int (15 : Int32)), (.int p3)]))
  refine Goes.pre (fun t kt => XS.iand X0.here hx rfl (hb hby at_14) rfl kt) ?_
  show Goes p e below s _ _ _ (s₁.setTop (mkF m 15 #[.val (.int p1), .val (.int p2), .val (.int p3), .val (.int (p1 &&& (15 : Int32))), .val (.int (p2 &&& (15 : Int32))), .unset, .unset, .unset, .unset] [(.int (p3 &&& (15 : Int32)))]))
  refine Goes.pre (fun t kt => XS.istore X0.here hx rfl (hb hby at_15) rfl (l' := #[.val (.int p1), .val (.int p2), .val (.int p3), .val (.int (p1 &&& (15 : Int32))), .val (.int (p2 &&& (15 : Int32))), .val (.int (p3 &&& (15 : Int32))), .unset, .unset, .unset]) rfl kt) ?_
  show Goes p e below s _ _ _ (s₁.setTop (mkF m 17 #[.val (.int p1), .val (.int p2), .val (.int p3), .val (.int (p1 &&& (15 : Int32))), .val (.int (p2 &&& (15 : Int32))), .val (.int (p3 &&& (15 : Int32))), .unset, .unset, .unset] []))
  refine Goes.pre (fun t kt => XS.iloadN X0.here hx rfl (hb hby at_17) rfl kt) ?_
  show Goes p e below s _ _ _ (s₁.setTop (mkF m 18 #[.val (.int p1), .val (.int p2), .val (.int p3), .val (.int (p1 &&& (15 : Int32))), .val (.int (p2 &&& (15 : Int32))), .val (.int (p3 &&& (15 : Int32))), .unset, .unset, .unset] [(.int (p1 &&& (15 : Int32)))]))
  refine Goes.pre (fun t kt => XS.iload X0.here hx rfl (hb hby at_18) rfl kt) ?_
  show Goes p e below s _ _ _ (s₁.setTop (mkF m 20 #[.val (.int p1), .val (.int p2), .val (.int p3), .val (.int (p1 &&& (15 : Int32))), .val (.int (p2 &&& (15 : Int32))), .val (.int (p3 &&& (15 : Int32))), .unset, .unset, .unset] [(.int (p2 &&& (15 : Int32))), (.int (p1 &&& (15 : Int32)))]))
  refine Goes.pre (fun t kt => XS.iadd X0.here hx rfl (hb hby at_20) rfl kt) ?_
  show Goes p e below s _ _ _ (s₁.setTop (mkF m 21 #[.val (.int p1), .val (.int p2), .val (.int p3), .val (.int (p1 &&& (15 : Int32))), .val (.int (p2 &&& (15 : Int32))), .val (.int (p3 &&& (15 : Int32))), .unset, .unset, .unset] [(.int ((p1 &&& (15 : Int32)) + (p2 &&& (15 : Int32))))]))
  refine Goes.pre (fun t kt => XS.iload X0.here hx rfl (hb hby at_21) rfl kt) ?_
  show Goes p e below s _ _ _ (s₁.setTop (mkF m 23 #[.val (.int p1), .val (.int p2), .val (.int p3), .val (.int (p1 &&& (15 : Int32))), .val (.int (p2 &&& (15 : Int32))), .val (.int (p3 &&& (15 : Int32))), .unset, .unset, .unset] [(.int (p3 &&& (15 : Int32))), (.int ((p1 &&& (15 : Int32)) + (p2 &&& (15 : Int32))))]))
  refine Goes.pre (fun t kt => XS.iadd X0.here hx rfl (hb hby at_23) rfl kt) ?_
  show Goes p e below s _ _ _ (s₁.setTop (mkF m 24 #[.val (.int p1), .val (.int p2), .val (.int p3), .val (.int (p1 &&& (15 : Int32))), .val (.int (p2 &&& (15 : Int32))), .val (.int (p3 &&& (15 : Int32))), .unset, .unset, .unset] [(.int (((p1 &&& (15 : Int32)) + (p2 &&& (15 : Int32))) + (p3 &&& (15 : Int32))))]))
  obtain ⟨T1, h1, k1, X1, e1, E1, A1, st1⟩ := newP X0 hx hZ (hw _ (List.mem_of_getElem? (i := 0) rfl)) e0 (g := (mkF m 24 #[.val (.int p1), .val (.int p2), .val (.int p3), .val (.int (p1 &&& (15 : Int32))), .val (.int (p2 &&& (15 : Int32))), .val (.int (p3 &&& (15 : Int32))), .unset, .unset, .unset] [(.int (((p1 &&& (15 : Int32)) + (p2 &&& (15 : Int32))) + (p3 &&& (15 : Int32))))])) rfl (hb hby at_24) rfl (own_abc (own_and15 p1) (own_and15 p2) (own_and15 p3)).2.2.2.1 (cap := 45) (own_abc (own_and15 p1) (own_and15 p2) (own_and15 p3)).2.2.2.2 (by decide) (by decide) (by decide)
  obtain ⟨b1, g1⟩ : ∃ z, z = h0.size := ⟨_, rfl⟩
  rw [← g1] at A1 st1
  have gg1 : n0 ≤ b1 := Nat.le_trans Z0 (Nat.le_of_eq g1.symm)
  have Z1 : n0 ≤ h1.size := Nat.le_trans Z0 E1.1
  refine Goes.pre st1 ?_
  have V1 : Arv Z h1 b1 k1 .byte (((p1 &&& (15 : Int32)) + (p2 &&& (15 : Int32))) + (p3 &&& (15 : Int32))) [] (.int (0 : Int32)) := Arv.new A1 (own_abc (own_and15 p1) (own_and15 p2) (own_and15 p3)).2.2.2.1
  show Goes p e below s _ _ _ (T1.setTop (mkF m 26 #[.val (.int p1), .val (.int p2), .val (.int p3), .val (.int (p1 &&& (15 : Int32))), .val (.int (p2 &&& (15 : Int32))), .val (.int (p3 &&& (15 : Int32))), .unset, .unset, .unset] [(.ref b1)]))
  refine Goes.pre (fun t kt => XS.astore X1.here hx rfl (hb hby at_26) rfl rfl (l' := #[.val (.int p1), .val (.int p2), .val (.int p3), .val (.int (p1 &&& (15 : Int32))), .val (.int (p2 &&& (15 : Int32))), .val (.int (p3 &&& (15 : Int32))), .val (.ref b1), .unset, .unset]) rfl kt) ?_
  show Goes p e below s _ _ _ (T1.setTop (mkF m 28 #[.val (.int p1), .val (.int p2), .val (.int p3), .val (.int (p1 &&& (15 : Int32))), .val (.int (p2 &&& (15 : Int32))), .val (.int (p3 &&& (15 : Int32))), .val (.ref b1), .unset, .unset] []))
  refine Goes.pre (fun t kt => XS.iconst X1.here hx rfl (hb hby at_28) kt) ?_
  show Goes p e below s _ _ _ (T1.setTop (mkF m 29 #[.val (.int p1), .val (.int p2), .val (.int p3), .val (.int (p1 &&& (15 : Int32))), .val (.int (p2 &&& (15 : Int32))), .val (.int (p3 &&& (15 : Int32))), .val (.ref b1), .unset, .unset] [(.int (4 : Int32))]))
  obtain ⟨T2, h2, k2, X2, e2, E2, A2, st2⟩ := newP X1 hx hZ (hw _ (List.mem_of_getElem? (i := 1) rfl)) e1 (g := (mkF m 29 #[.val (.int p1), .val (.int p2), .val (.int p3), .val (.int (p1 &&& (15 : Int32))), .val (.int (p2 &&& (15 : Int32))), .val (.int (p3 &&& (15 : Int32))), .val (.ref b1), .unset, .unset] [(.int (4 : Int32))])) rfl (hb hby at_29) rfl (by decide) (cap := 4) (by decide) (by decide) (by decide) (by decide)
  obtain ⟨b2, g2⟩ : ∃ z, z = h1.size := ⟨_, rfl⟩
  rw [← g2] at A2 st2
  have ltb1_2 : b1 < b2 := Nat.lt_of_lt_of_le V1.lt (Nat.le_of_eq g2.symm)
  have gg2 : n0 ≤ b2 := Nat.le_trans Z1 (Nat.le_of_eq g2.symm)
  have Z2 : n0 ≤ h2.size := Nat.le_trans Z1 E2.1
  refine Goes.pre st2 ?_
  have V2 : Arv Z h2 b2 k2 .int (4 : Int32) [(.int (0 : Int32)), (.int (0 : Int32)), (.int (0 : Int32)), (.int (0 : Int32))] (.int (0 : Int32)) := (Arv.new A2 (by decide)).pad (pad_rep [] (.int (0 : Int32)) 4)
  show Goes p e below s _ _ _ (T2.setTop (mkF m 31 #[.val (.int p1), .val (.int p2), .val (.int p3), .val (.int (p1 &&& (15 : Int32))), .val (.int (p2 &&& (15 : Int32))), .val (.int (p3 &&& (15 : Int32))), .val (.ref b1), .unset, .unset] [(.ref b2)]))
  refine Goes.pre (fun t kt => XS.astore X2.here hx rfl (hb hby at_31) rfl rfl (l' := #[.val (.int p1), .val (.int p2), .val (.int p3), .val (.int (p1 &&& (15 : Int32))), .val (.int (p2 &&& (15 : Int32))), .val (.int (p3 &&& (15 : Int32))), .val (.ref b1), .val (.ref b2), .unset]) rfl kt) ?_
  show Goes p e below s _ _ _ (T2.setTop (mkF m 33 #[.val (.int p1), .val (.int p2), .val (.int p3), .val (.int (p1 &&& (15 : Int32))), .val (.int (p2 &&& (15 : Int32))), .val (.int (p3 &&& (15 : Int32))), .val (.ref b1), .val (.ref b2), .unset] []))
  refine Goes.pre (fun t kt => XS.aload X2.here hx rfl (hb hby at_33) rfl rfl kt) ?_
  show Goes p e below s _ _ _ (T2.setTop (mkF m 35 #[.val (.int p1), .val (.int p2), .val (.int p3), .val (.int (p1 &&& (15 : Int32))), .val (.int (p2 &&& (15 : Int32))), .val (.int (p3 &&& (15 : Int32))), .val (.ref b1), .val (.ref b2), .unset] [(.ref b2)]))
  refine Goes.pre (fun t kt => XS.iconst X2.here hx rfl (hb hby at_35) kt) ?_
  show Goes p e below s _ _ _ (T2.setTop (mkF m 36 #[.val (.int p1), .val (.int p2), .val (.int p3), .val (.int (p1 &&& (15 : Int32))), .val (.int (p2 &&& (15 : Int32))), .val (.int (p3 &&& (15 : Int32))), .val (.ref b1), .val (.ref b2), .unset] [(.int (0 : Int32)), (.ref b2)]))
  refine Goes.pre (fun t kt => XS.iconst X2.here hx rfl (hb hby at_36) kt) ?_
  show Goes p e below s _ _ _ (T2.setTop (mkF m 37 #[.val (.int p1), .val (.int p2), .val (.int p3), .val (.int (p1 &&& (15 : Int32))), .val (.int (p2 &&& (15 : Int32))), .val (.int (p3 &&& (15 : Int32))), .val (.ref b1), .val (.ref b2), .unset] [(.int (0 : Int32)), (.int (0 : Int32)), (.ref b2)]))
  obtain ⟨cl3, Ar3, aq3, aS3, aN3, aH3, aG3⟩ := V2
  have hin3 : ¬ ((0 : Int32) < 0 ∨ cl3.slots.size ≤ ((0 : Int32)).toNatClampNeg) := inb_of aS3 ⟨by decide, by decide⟩
  obtain ⟨T3, h3, X3, e3, W3, st3⟩ := stI X2 hx hZ e2 Ar3 (j := (0 : Int32)) hin3 (g := (mkF m 37 #[.val (.int p1), .val (.int p2), .val (.int p3), .val (.int (p1 &&& (15 : Int32))), .val (.int (p2 &&& (15 : Int32))), .val (.int (p3 &&& (15 : Int32))), .val (.ref b1), .val (.ref b2), .unset] [(.int (0 : Int32)), (.int (0 : Int32)), (.ref b2)])) rfl rfl (hb hby at_37)
  refine Goes.pre st3 ?_
  have Z3 : n0 ≤ h3.size := Nat.le_trans Z2 (Keep.of_wr W3).1
  have N3 := Fr.snoc X3 N0 gg2
  have V3 : Arv Z h3 b2 k2 .int (4 : Int32) [(.int (0 : Int32)), (.int (0 : Int32)), (.int (0 : Int32)), (.int (0 : Int32))] (.int (0 : Int32)) := Arv.set Ar3 aq3 aS3 aN3 aH3 aG3 rfl W3 0 rfl (Nat.le_of_ble_eq_true rfl)
  show Goes p e below s _ _ _ (T3.setTop (mkF m 38 #[.val (.int p1), .val (.int p2), .val (.int p3), .val (.int (p1 &&& (15 : Int32))), .val (.int (p2 &&& (15 : Int32))), .val (.int (p3 &&& (15 : Int32))), .val (.ref b1), .val (.ref b2), .unset] []))
  refine Goes.pre (fun t kt => XS.aload X3.here hx rfl (hb hby at_38) rfl rfl kt) ?_
  show Goes p e below s _ _ _ (T3.setTop (mkF m 40 #[.val (.int p1), .val (.int p2), .val (.int p3), .val (.int (p1 &&& (15 : Int32))), .val (.int (p2 &&& (15 : Int32))), .val (.int (p3 &&& (15 : Int32))), .val (.ref b1), .val (.ref b2), .unset] [(.ref b2)]))
  refine Goes.pre (fun t kt => XS.iconst X3.here hx rfl (hb hby at_40) kt) ?_
  show Goes p e below s _ _ _ (T3.setTop (mkF m 41 #[.val (.int p1), .val (.int p2), .val (.int p3), .val (.int (p1 &&& (15 : Int32))), .val (.int (p2 &&& (15 : Int32))), .val (.int (p3 &&& (15 : Int32))), .val (.ref b1), .val (.ref b2), .unset] [(.int (1 : Int32)), (.ref b2)]))
  refine Goes.pre (fun t kt => XS.iloadN X3.here hx rfl (hb hby at_41) rfl kt) ?_
  show Goes p e below s _ _ _ (T3.setTop (mkF m 42 #[.val (.int p1), .val (.int p2), .val (.int p3), .val (.int (p1 &&& (15 : Int32))), .val (.int (p2 &&& (15 : Int32))), .val (.int (p3 &&& (15 : Int32))), .val (.ref b1), .val (.ref b2), .unset] [(.int (p1 &&& (15 : Int32))), (.int (1 : Int32)), (.ref b2)]))
  obtain ⟨cl4, Ar4, aq4, aS4, aN4, aH4, aG4⟩ := V3
  have hin4 : ¬ ((1 : Int32) < 0 ∨ cl4.slots.size ≤ ((1 : Int32)).toNatClampNeg) := inb_of aS4 ⟨by decide, by decide⟩
  obtain ⟨T4, h4, X4, e4, W4, st4⟩ := stI X3 hx hZ e3 Ar4 (j := (1 : Int32)) hin4 (g := (mkF m 42 #[.val (.int p1), .val (.int p2), .val (.int p3), .val (.int (p1 &&& (15 : Int32))), .val (.int (p2 &&& (15 : Int32))), .val (.int (p3 &&& (15 : Int32))), .val (.ref b1), .val (.ref b2), .unset] [(.int (p1 &&& (15 : Int32))), (.int (1 : Int32)), (.ref b2)])) rfl rfl (hb hby at_42)
  refine Goes.pre st4 ?_
  have Z4 : n0 ≤ h4.size := Nat.le_trans Z3 (Keep.of_wr W4).1
  have N4 := Fr.snoc X4 N3 gg2
  have V4 : Arv Z h4 b2 k2 .int (4 : Int32) [(.int (0 : Int32)), (.int (p1 &&& (15 : Int32))), (.int (0 : Int32)), (.int (0 : Int32))] (.int (0 : Int32)) := Arv.set Ar4 aq4 aS4 aN4 aH4 aG4 rfl W4 1 rfl (Nat.le_of_ble_eq_true rfl)
  show Goes p e below s _ _ _ (T4.setTop (mkF m 43 #[.val (.int p1), .val (.int p2), .val (.int p3), .val (.int (p1 &&& (15 : Int32))), .val (.int (p2 &&& (15 : Int32))), .val (.int (p3 &&& (15 : Int32))), .val (.ref b1), .val (.ref b2), .unset] []))
  refine Goes.pre (fun t kt => XS.aload X4.here hx rfl (hb hby at_43) rfl rfl kt) ?_
  show Goes p e below s _ _ _ (T4.setTop (mkF m 45 #[.val (.int p1), .val (.int p2), .val (.int p3), .val (.int (p1 &&& (15 : Int32))), .val (.int (p2 &&& (15 : Int32))), .val (.int (p3 &&& (15 : Int32))), .val (.ref b1), .val (.ref b2), .unset] [(.ref b2)]))
  refine Goes.pre (fun t kt => XS.iconst X4.here hx rfl (hb hby at_45) kt) ?_
  show Goes p e below s _ _ _ (T4.setTop (mkF m 46 #[.val (.int p1), .val (.int p2), .val (.int p3), .val (.int (p1 &&& (15 : Int32))), .val (.int (p2 &&& (15 : Int32))), .val (.int (p3 &&& (15 : Int32))), .val (.ref b1), .val (.ref b2), .unset] [(.int (2 : Int32)), (.ref b2)]))
  refine Goes.pre (fun t kt => XS.iloadN X4.here hx rfl (hb hby at_46) rfl kt) ?_
  show Goes p e below s _ _ _ (T4.setTop (mkF m 47 #[.val (.int p1), .val (.int p2), .val (.int p3), .val (.int (p1 &&& (15 : Int32))), .val (.int (p2 &&& (15 : Int32))), .val (.int (p3 &&& (15 : Int32))), .val (.ref b1), .val (.ref b2), .unset] [(.int (p1 &&& (15 : Int32))), (.int (2 : Int32)), (.ref b2)]))
  refine Goes.pre (fun t kt => XS.iload X4.here hx rfl (hb hby at_47) rfl kt) ?_
  show Goes p e below s _ _ _ (T4.setTop (mkF m 49 #[.val (.int p1), .val (.int p2), .val (.int p3), .val (.int (p1 &&& (15 : Int32))), .val (.int (p2 &&& (15 : Int32))), .val (.int (p3 &&& (15 : Int32))), .val (.ref b1), .val (.ref b2), .unset] [(.int (p2 &&& (15 : Int32))), (.int (p1 &&& (15 : Int32))), (.int (2 : Int32)), (.ref b2)]))
  refine Goes.pre (fun t kt => XS.iadd X4.here hx rfl (hb hby at_49) rfl kt) ?_
  show Goes p e below s _ _ _ (T4.setTop (mkF m 50 #[.val (.int p1), .val (.int p2), .val (.int p3), .val (.int (p1 &&& (15 : Int32))), .val (.int (p2 &&& (15 : Int32))), .val (.int (p3 &&& (15 : Int32))), .val (.ref b1), .val (.ref b2), .unset] [(.int ((p1 &&& (15 : Int32)) + (p2 &&& (15 : Int32)))), (.int (2 : Int32)), (.ref b2)]))
  obtain ⟨cl5, Ar5, aq5, aS5, aN5, aH5, aG5⟩ := V4
  have hin5 : ¬ ((2 : Int32) < 0 ∨ cl5.slots.size ≤ ((2 : Int32)).toNatClampNeg) := inb_of aS5 ⟨by decide, by decide⟩
  obtain ⟨T5, h5, X5, e5, W5, st5⟩ := stI X4 hx hZ e4 Ar5 (j := (2 : Int32)) hin5 (g := (mkF m 50 #[.val (.int p1), .val (.int p2), .val (.int p3), .val (.int (p1 &&& (15 : Int32))), .val (.int (p2 &&& (15 : Int32))), .val (.int (p3 &&& (15 : Int32))), .val (.ref b1), .val (.ref b2), .unset] [(.int ((p1 &&& (15 : Int32)) + (p2 &&& (15 : Int32)))), (.int (2 : Int32)), (.ref b2)])) rfl rfl (hb hby at_50)
  refine Goes.pre st5 ?_
  have Z5 : n0 ≤ h5.size := Nat.le_trans Z4 (Keep.of_wr W5).1
  have N5 := Fr.snoc X5 N4 gg2
  have V5 : Arv Z h5 b2 k2 .int (4 : Int32) [(.int (0 : Int32)), (.int (p1 &&& (15 : Int32))), (.int ((p1 &&& (15 : Int32)) + (p2 &&& (15 : Int32)))), (.int (0 : Int32))] (.int (0 : Int32)) := Arv.set Ar5 aq5 aS5 aN5 aH5 aG5 rfl W5 2 rfl (Nat.le_of_ble_eq_true rfl)
  show Goes p e below s _ _ _ (T5.setTop (mkF m 51 #[.val (.int p1), .val (.int p2), .val (.int p3), .val (.int (p1 &&& (15 : Int32))), .val (.int (p2 &&& (15 : Int32))), .val (.int (p3 &&& (15 : Int32))), .val (.ref b1), .val (.ref b2), .unset] []))
  refine Goes.pre (fun t kt => XS.aload X5.here hx rfl (hb hby at_51) rfl rfl kt) ?_
  show Goes p e below s _ _ _ (T5.setTop (mkF m 53 #[.val (.int p1), .val (.int p2), .val (.int p3), .val (.int (p1 &&& (15 : Int32))), .val (.int (p2 &&& (15 : Int32))), .val (.int (p3 &&& (15 : Int32))), .val (.ref b1), .val (.ref b2), .unset] [(.ref b2)]))
  refine Goes.pre (fun t kt => XS.iconst X5.here hx rfl (hb hby at_53) kt) ?_
  show Goes p e below s _ _ _ (T5.setTop (mkF m 54 #[.val (.int p1), .val (.int p2), .val (.int p3), .val (.int (p1 &&& (15 : Int32))), .val (.int (p2 &&& (15 : Int32))), .val (.int (p3 &&& (15 : Int32))), .val (.ref b1), .val (.ref b2), .unset] [(.int (3 : Int32)), (.ref b2)]))
  refine Goes.pre (fun t kt => XS.iloadN X5.here hx rfl (hb hby at_54) rfl kt) ?_
  show Goes p e below s _ _ _ (T5.setTop (mkF m 55 #[.val (.int p1), .val (.int p2), .val (.int p3), .val (.int (p1 &&& (15 : Int32))), .val (.int (p2 &&& (15 : Int32))), .val (.int (p3 &&& (15 : Int32))), .val (.ref b1), .val (.ref b2), .unset] [(.int (p1 &&& (15 : Int32))), (.int (3 : Int32)), (.ref b2)]))
  refine Goes.pre (fun t kt => XS.iload X5.here hx rfl (hb hby at_55) rfl kt) ?_
  show Goes p e below s _ _ _ (T5.setTop (mkF m 57 #[.val (.int p1), .val (.int p2), .val (.int p3), .val (.int (p1 &&& (15 : Int32))), .val (.int (p2 &&& (15 : Int32))), .val (.int (p3 &&& (15 : Int32))), .val (.ref b1), .val (.ref b2), .unset] [(.int (p2 &&& (15 : Int32))), (.int (p1 &&& (15 : Int32))), (.int (3 : Int32)), (.ref b2)]))
  refine Goes.pre (fun t kt => XS.iadd X5.here hx rfl (hb hby at_57) rfl kt) ?_
  show Goes p e below s _ _ _ (T5.setTop (mkF m 58 #[.val (.int p1), .val (.int p2), .val (.int p3), .val (.int (p1 &&& (15 : Int32))), .val (.int (p2 &&& (15 : Int32))), .val (.int (p3 &&& (15 : Int32))), .val (.ref b1), .val (.ref b2), .unset] [(.int ((p1 &&& (15 : Int32)) + (p2 &&& (15 : Int32)))), (.int (3 : Int32)), (.ref b2)]))
  refine Goes.pre (fun t kt => XS.iload X5.here hx rfl (hb hby at_58) rfl kt) ?_
  show Goes p e below s _ _ _ (T5.setTop (mkF m 60 #[.val (.int p1), .val (.int p2), .val (.int p3), .val (.int (p1 &&& (15 : Int32))), .val (.int (p2 &&& (15 : Int32))), .val (.int (p3 &&& (15 : Int32))), .val (.ref b1), .val (.ref b2), .unset] [(.int (p3 &&& (15 : Int32))), (.int ((p1 &&& (15 : Int32)) + (p2 &&& (15 : Int32)))), (.int (3 : Int32)), (.ref b2)]))
  refine Goes.pre (fun t kt => XS.iadd X5.here hx rfl (hb hby at_60) rfl kt) ?_
  show Goes p e below s _ _ _ (T5.setTop (mkF m 61 #[.val (.int p1), .val (.int p2), .val (.int p3), .val (.int (p1 &&& (15 : Int32))), .val (.int (p2 &&& (15 : Int32))), .val (.int (p3 &&& (15 : Int32))), .val (.ref b1), .val (.ref b2), .unset] [(.int (((p1 &&& (15 : Int32)) + (p2 &&& (15 : Int32))) + (p3 &&& (15 : Int32)))), (.int (3 : Int32)), (.ref b2)]))
  obtain ⟨cl6, Ar6, aq6, aS6, aN6, aH6, aG6⟩ := V5
  have hin6 : ¬ ((3 : Int32) < 0 ∨ cl6.slots.size ≤ ((3 : Int32)).toNatClampNeg) := inb_of aS6 ⟨by decide, by decide⟩
  obtain ⟨T6, h6, X6, e6, W6, st6⟩ := stI X5 hx hZ e5 Ar6 (j := (3 : Int32)) hin6 (g := (mkF m 61 #[.val (.int p1), .val (.int p2), .val (.int p3), .val (.int (p1 &&& (15 : Int32))), .val (.int (p2 &&& (15 : Int32))), .val (.int (p3 &&& (15 : Int32))), .val (.ref b1), .val (.ref b2), .unset] [(.int (((p1 &&& (15 : Int32)) + (p2 &&& (15 : Int32))) + (p3 &&& (15 : Int32)))), (.int (3 : Int32)), (.ref b2)])) rfl rfl (hb hby at_61)
  refine Goes.pre st6 ?_
  have Z6 : n0 ≤ h6.size := Nat.le_trans Z5 (Keep.of_wr W6).1
  have N6 := Fr.snoc X6 N5 gg2
  have V6 : Arv Z h6 b2 k2 .int (4 : Int32) [(.int (0 : Int32)), (.int (p1 &&& (15 : Int32))), (.int ((p1 &&& (15 : Int32)) + (p2 &&& (15 : Int32)))), (.int (((p1 &&& (15 : Int32)) + (p2 &&& (15 : Int32))) + (p3 &&& (15 : Int32))))] (.int (0 : Int32)) := Arv.set Ar6 aq6 aS6 aN6 aH6 aG6 rfl W6 3 rfl (Nat.le_of_ble_eq_true rfl)
  show Goes p e below s _ _ _ (T6.setTop (mkF m 62 #[.val (.int p1), .val (.int p2), .val (.int p3), .val (.int (p1 &&& (15 : Int32))), .val (.int (p2 &&& (15 : Int32))), .val (.int (p3 &&& (15 : Int32))), .val (.ref b1), .val (.ref b2), .unset] []))
  obtain ⟨T7, h7, X7, e7, E7, A7, D7, U7, st7⟩ := newO X6 hx hZ hown (hw _ (List.mem_of_getElem? (i := 2) rfl)) (hw _ (List.mem_of_getElem? (i := 3) rfl)) (hw _ (List.mem_of_getElem? (i := 4) rfl)) e6 (g := (mkF m 62 #[.val (.int p1), .val (.int p2), .val (.int p3), .val (.int (p1 &&& (15 : Int32))), .val (.int (p2 &&& (15 : Int32))), .val (.int (p3 &&& (15 : Int32))), .val (.ref b1), .val (.ref b2), .unset] [])) rfl (hb hby at_62) (by decide) (by decide)
  obtain ⟨b7, g7⟩ : ∃ z, z = h6.size := ⟨_, rfl⟩
  rw [← g7] at A7 D7 U7 st7
  have fc8 : Arv Z h6 b1 k1 .byte (((p1 &&& (15 : Int32)) + (p2 &&& (15 : Int32))) + (p3 &&& (15 : Int32))) [] (.int (0 : Int32)) := (((((V1.ext E2).other W3 (Nat.ne_of_lt ltb1_2)).other W4 (Nat.ne_of_lt ltb1_2)).other W5 (Nat.ne_of_lt ltb1_2)).other W6 (Nat.ne_of_lt ltb1_2))
  have ltb1_7 : b1 < b7 := Nat.lt_of_lt_of_le fc8.lt (Nat.le_of_eq g7.symm)
  have ltb2_7 : b2 < b7 := Nat.lt_of_lt_of_le V6.lt (Nat.le_of_eq g7.symm)
  have gg7 : n0 ≤ b7 := Nat.le_trans Z6 (Nat.le_of_eq g7.symm)
  have Z7 : n0 ≤ h7.size := Nat.le_trans Z6 E7.1
  refine Goes.pre st7 ?_
  have Fn7_17 : Fld Z h7 b7 "com/example/nosograph/nosograph/input/ByteStrings" "bytes" "[B" .null := D7 (Or.inr (hw _ (List.mem_of_getElem? (i := 17) rfl))) (ty := (.array .byte)) (by decide)
  have Fn7_19 : Fld Z h7 b7 "com/example/nosograph/nosograph/input/ByteStrings" "starts" "[I" .null := D7 (Or.inr (hw _ (List.mem_of_getElem? (i := 19) rfl))) (ty := (.array .int)) (by decide)
  show Goes p e below s _ _ _ (T7.setTop (mkF m 65 #[.val (.int p1), .val (.int p2), .val (.int p3), .val (.int (p1 &&& (15 : Int32))), .val (.int (p2 &&& (15 : Int32))), .val (.int (p3 &&& (15 : Int32))), .val (.ref b1), .val (.ref b2), .unset] [(.ref b7)]))
  refine Goes.pre (fun t kt => XS.dup X7.here hx rfl (hb hby at_65) rfl rfl kt) ?_
  show Goes p e below s _ _ _ (T7.setTop (mkF m 66 #[.val (.int p1), .val (.int p2), .val (.int p3), .val (.int (p1 &&& (15 : Int32))), .val (.int (p2 &&& (15 : Int32))), .val (.int (p3 &&& (15 : Int32))), .val (.ref b1), .val (.ref b2), .unset] [(.ref b7), (.ref b7)]))
  refine Goes.pre (fun t kt => XS.aload X7.here hx rfl (hb hby at_66) rfl rfl kt) ?_
  show Goes p e below s _ _ _ (T7.setTop (mkF m 68 #[.val (.int p1), .val (.int p2), .val (.int p3), .val (.int (p1 &&& (15 : Int32))), .val (.int (p2 &&& (15 : Int32))), .val (.int (p3 &&& (15 : Int32))), .val (.ref b1), .val (.ref b2), .unset] [(.ref b1), (.ref b7), (.ref b7)]))
  refine Goes.pre (fun t kt => XS.aload X7.here hx rfl (hb hby at_68) rfl rfl kt) ?_
  show Goes p e below s _ _ _ (T7.setTop (mkF m 70 #[.val (.int p1), .val (.int p2), .val (.int p3), .val (.int (p1 &&& (15 : Int32))), .val (.int (p2 &&& (15 : Int32))), .val (.int (p3 &&& (15 : Int32))), .val (.ref b1), .val (.ref b2), .unset] [(.ref b2), (.ref b1), (.ref b7), (.ref b7)]))
  have fc9 : Arv Z h7 b1 k1 .byte (((p1 &&& (15 : Int32)) + (p2 &&& (15 : Int32))) + (p3 &&& (15 : Int32))) [] (.int (0 : Int32)) := (fc8.ext E7)
  have fc10 : Arv Z h7 b2 k2 .int (4 : Int32) [(.int (0 : Int32)), (.int (p1 &&& (15 : Int32))), (.int ((p1 &&& (15 : Int32)) + (p2 &&& (15 : Int32)))), (.int (((p1 &&& (15 : Int32)) + (p2 &&& (15 : Int32))) + (p3 &&& (15 : Int32))))] (.int (0 : Int32)) := (V6.ext E7)
  obtain ⟨_, _, ⟨T11, L11, k11, n11⟩, -, X11, ⟨Lc11, hQ11, l11, y11, z11⟩, st11⟩ := X7.specialBack hx (y := (⟨"com/example/nosograph/nosograph/input/ByteStrings", "<init>", "([B[I)V"⟩ : MethodName)) rfl hown (mvT hZ (hw _ (List.mem_of_getElem? (i := 5) rfl))) (mvT hZ (hw _ (List.mem_of_getElem? (i := 6) rfl))) (mvT hZ (hw _ (List.mem_of_getElem? (i := 7) rfl))) (by decide) (backOf (W := 1) (rm1 l Z a0 hw [] b7 b1 b2 k1 k2 [] (p1 &&& (15 : Int32)) (p2 &&& (15 : Int32)) (p3 &&& (15 : Int32)) h7 n0 Z7 A7 gg7 Fn7_17 Fn7_19 fc9 fc10 (Nat.ne_of_lt ltb2_7) (Nat.ne_of_lt ltb1_7) ((own_abc (own_and15 p1) (own_and15 p2) (own_and15 p3)).1) ((own_abc (own_and15 p1) (own_and15 p2) (own_and15 p3)).2.1) ((own_abc (own_and15 p1) (own_and15 p2) (own_and15 p3)).2.2.1)) hZ (hw _ (List.mem_of_getElem? (i := 7) rfl)) (hw _ (List.mem_of_getElem? (i := 4) rfl)) (by decide) (by decide)) (g := (mkF m 70 #[.val (.int p1), .val (.int p2), .val (.int p3), .val (.int (p1 &&& (15 : Int32))), .val (.int (p2 &&& (15 : Int32))), .val (.int (p3 &&& (15 : Int32))), .val (.ref b1), .val (.ref b2), .unset] [(.ref b2), (.ref b1), (.ref b7), (.ref b7)])) rfl (by rw [hml]; rfl) (Steps.refl _) (a := b7) (argsL := [(.ref b1), (.ref b2)]) (rest := [(.ref b7)]) (lenOf pd_3 rfl) rfl (by show 2 * 0 + _ ≤ _; exact Nat.le_of_eq rfl) (hb hby at_70) (fun _ _ => ⟨rfl, e7, (by decide : 3 + 0 ≤ _), (by decide : 51 + 0 ≤ _)⟩)
  dsimp only [Pt.U, Pt.locs, Pt.cells, Pt.slots] at X11 l11 y11 z11 st11 hQ11
  subst l11 y11 z11
  obtain ⟨rfl, Nq11, Kq11, pq11_0⟩ := hQ11
  refine Goes.run st11 ?_
  have N11 := Fr.app N6 Nq11
  obtain ⟨h11, e11⟩ : ∃ z, T11.heap = z := ⟨_, rfl⟩
  rw [e11] at Kq11 pq11_0
  have Z11 : n0 ≤ h11.size := Nat.le_trans Z7 Kq11.1
  show Goes p e below s _ _ _ (T11.setTop (mkF m 73 #[.val (.int p1), .val (.int p2), .val (.int p3), .val (.int (p1 &&& (15 : Int32))), .val (.int (p2 &&& (15 : Int32))), .val (.int (p3 &&& (15 : Int32))), .val (.ref b1), .val (.ref b2), .unset] [(.ref b7)]))
  refine Goes.pre (fun t kt => XS.astore X11.here hx rfl (hb hby at_73) rfl rfl (l' := #[.val (.int p1), .val (.int p2), .val (.int p3), .val (.int (p1 &&& (15 : Int32))), .val (.int (p2 &&& (15 : Int32))), .val (.int (p3 &&& (15 : Int32))), .val (.ref b1), .val (.ref b2), .val (.ref b7)]) rfl kt) ?_
  show Goes p e below s _ _ _ (T11.setTop (mkF m 75 #[.val (.int p1), .val (.int p2), .val (.int p3), .val (.int (p1 &&& (15 : Int32))), .val (.int (p2 &&& (15 : Int32))), .val (.int (p3 &&& (15 : Int32))), .val (.ref b1), .val (.ref b2), .val (.ref b7)] []))
  refine Goes.pre (fun t kt => XS.aload X11.here hx rfl (hb hby at_75) rfl rfl kt) ?_
  show Goes p e below s _ _ _ (T11.setTop (mkF m 77 #[.val (.int p1), .val (.int p2), .val (.int p3), .val (.int (p1 &&& (15 : Int32))), .val (.int (p2 &&& (15 : Int32))), .val (.int (p3 &&& (15 : Int32))), .val (.ref b1), .val (.ref b2), .val (.ref b7)] [(.ref b7)]))
  refine Goes.pre (fun t kt => XS.iconst X11.here hx rfl (hb hby at_77) kt) ?_
  show Goes p e below s _ _ _ (T11.setTop (mkF m 78 #[.val (.int p1), .val (.int p2), .val (.int p3), .val (.int (p1 &&& (15 : Int32))), .val (.int (p2 &&& (15 : Int32))), .val (.int (p3 &&& (15 : Int32))), .val (.ref b1), .val (.ref b2), .val (.ref b7)] [(.int (0 : Int32)), (.ref b7)]))
  have fc12 : Arv Z h11 b2 k2 .int (4 : Int32) [(.int (0 : Int32)), (.int (p1 &&& (15 : Int32))), (.int ((p1 &&& (15 : Int32)) + (p2 &&& (15 : Int32)))), (.int (((p1 &&& (15 : Int32)) + (p2 &&& (15 : Int32))) + (p3 &&& (15 : Int32))))] (.int (0 : Int32)) := (fc10.keep Kq11 (ninS (Nat.ne_of_lt ltb2_7) nin0))
  have fc15 : Exa Z h11 b7 "com/example/nosograph/nosograph/input/ByteStrings" := (A7.keep Kq11)
  obtain ⟨cq14, kq14, qa14, qb14, qc14⟩ := isOf hZ e11 fc15
  obtain ⟨_, _, ⟨T13, L13, k13, n13⟩, -, X13, ⟨Lc13, hQ13, l13, y13, z13⟩, st13⟩ := X11.virtualBack hx (y := (⟨"com/example/nosograph/nosograph/input/ByteStrings", "length", "(I)I"⟩ : MethodName)) (z := (⟨"com/example/nosograph/nosograph/input/ByteStrings", "length", "(I)I"⟩ : MethodName)) hown (mvT hZ (hw _ (List.mem_of_getElem? (i := 20) rfl))) (mvT hZ (hw _ (List.mem_of_getElem? (i := 21) rfl))) (notFace_of_selects (args := #[]) (mvT hZ (hw _ (List.mem_of_getElem? (i := 23) rfl)))) (mvT hZ (hw _ (List.mem_of_getElem? (i := 23) rfl))) (mvT hZ (hw _ (List.mem_of_getElem? (i := 22) rfl))) (by decide) (backOf (W := 0) (rm4_0 l Z a0 hw [] b7 b2 k2 (0 : Int32) (p1 &&& (15 : Int32)) ((p1 &&& (15 : Int32)) + (p2 &&& (15 : Int32))) (((p1 &&& (15 : Int32)) + (p2 &&& (15 : Int32))) + (p3 &&& (15 : Int32))) h11 n0 Z11 pq11_0 fc12) hZ (hw _ (List.mem_of_getElem? (i := 24) rfl)) (hw _ (List.mem_of_getElem? (i := 4) rfl)) (by decide) (by decide)) qa14 qc14 (g := (mkF m 78 #[.val (.int p1), .val (.int p2), .val (.int p3), .val (.int (p1 &&& (15 : Int32))), .val (.int (p2 &&& (15 : Int32))), .val (.int (p3 &&& (15 : Int32))), .val (.ref b1), .val (.ref b2), .val (.ref b7)] [(.int (0 : Int32)), (.ref b7)])) rfl (by rw [hml]; rfl) (Steps.refl _) (argsL := [(.int (0 : Int32))]) (rest := []) (lenOf pd_4 rfl) rfl (by show 2 * 0 + _ ≤ _; exact Nat.le_of_eq rfl) (hb hby at_78) (fun _ _ => ⟨rfl, e11, (by decide : 3 + 0 ≤ _), (by decide : 51 + 0 ≤ _)⟩)
  dsimp only [Pt.U, Pt.locs, Pt.cells, Pt.slots] at X13 l13 y13 z13 st13 hQ13
  subst l13 y13 z13
  obtain ⟨rfl, Nq13, eq13⟩ := hQ13
  refine Goes.run st13 ?_
  have N13 := Fr.app N11 Nq13
  show Goes p e below s _ _ _ (T13.setTop (mkF m 81 #[.val (.int p1), .val (.int p2), .val (.int p3), .val (.int (p1 &&& (15 : Int32))), .val (.int (p2 &&& (15 : Int32))), .val (.int (p3 &&& (15 : Int32))), .val (.ref b1), .val (.ref b2), .val (.ref b7)] [(.int ((p1 &&& (15 : Int32)) - (0 : Int32)))]))
  refine Goes.pre (fun t kt => XS.iloadN X13.here hx rfl (hb hby at_81) rfl kt) ?_
  show Goes p e below s _ _ _ (T13.setTop (mkF m 82 #[.val (.int p1), .val (.int p2), .val (.int p3), .val (.int (p1 &&& (15 : Int32))), .val (.int (p2 &&& (15 : Int32))), .val (.int (p3 &&& (15 : Int32))), .val (.ref b1), .val (.ref b2), .val (.ref b7)] [(.int (p1 &&& (15 : Int32))), (.int ((p1 &&& (15 : Int32)) - (0 : Int32)))]))
  refine Goes.pre (fun t kt => XS.icmpNo X13.here hx rfl (hb hby at_82) rfl (Jvm.Free.XT.ii_ne_f ((own_s0 _))) kt) ?_
  show Goes p e below s _ _ _ (T13.setTop (mkF m 85 #[.val (.int p1), .val (.int p2), .val (.int p3), .val (.int (p1 &&& (15 : Int32))), .val (.int (p2 &&& (15 : Int32))), .val (.int (p3 &&& (15 : Int32))), .val (.ref b1), .val (.ref b2), .val (.ref b7)] []))
  refine Goes.pre (fun t kt => XS.aload X13.here hx rfl (hb hby at_85) rfl rfl kt) ?_
  show Goes p e below s _ _ _ (T13.setTop (mkF m 87 #[.val (.int p1), .val (.int p2), .val (.int p3), .val (.int (p1 &&& (15 : Int32))), .val (.int (p2 &&& (15 : Int32))), .val (.int (p3 &&& (15 : Int32))), .val (.ref b1), .val (.ref b2), .val (.ref b7)] [(.ref b7)]))
  refine Goes.pre (fun t kt => XS.iconst X13.here hx rfl (hb hby at_87) kt) ?_
  show Goes p e below s _ _ _ (T13.setTop (mkF m 88 #[.val (.int p1), .val (.int p2), .val (.int p3), .val (.int (p1 &&& (15 : Int32))), .val (.int (p2 &&& (15 : Int32))), .val (.int (p3 &&& (15 : Int32))), .val (.ref b1), .val (.ref b2), .val (.ref b7)] [(.int (1 : Int32)), (.ref b7)]))
  obtain ⟨cq17, kq17, qa17, qb17, qc17⟩ := isOf hZ eq13 fc15
  obtain ⟨_, _, ⟨T16, L16, k16, n16⟩, -, X16, ⟨Lc16, hQ16, l16, y16, z16⟩, st16⟩ := X13.virtualBack hx (y := (⟨"com/example/nosograph/nosograph/input/ByteStrings", "length", "(I)I"⟩ : MethodName)) (z := (⟨"com/example/nosograph/nosograph/input/ByteStrings", "length", "(I)I"⟩ : MethodName)) hown (mvT hZ (hw _ (List.mem_of_getElem? (i := 20) rfl))) (mvT hZ (hw _ (List.mem_of_getElem? (i := 21) rfl))) (notFace_of_selects (args := #[]) (mvT hZ (hw _ (List.mem_of_getElem? (i := 23) rfl)))) (mvT hZ (hw _ (List.mem_of_getElem? (i := 23) rfl))) (mvT hZ (hw _ (List.mem_of_getElem? (i := 22) rfl))) (by decide) (backOf (W := 0) (rm4_1 l Z a0 hw [] b7 b2 k2 (0 : Int32) (p1 &&& (15 : Int32)) ((p1 &&& (15 : Int32)) + (p2 &&& (15 : Int32))) (((p1 &&& (15 : Int32)) + (p2 &&& (15 : Int32))) + (p3 &&& (15 : Int32))) h11 n0 Z11 pq11_0 fc12) hZ (hw _ (List.mem_of_getElem? (i := 24) rfl)) (hw _ (List.mem_of_getElem? (i := 4) rfl)) (by decide) (by decide)) qa17 qc17 (g := (mkF m 88 #[.val (.int p1), .val (.int p2), .val (.int p3), .val (.int (p1 &&& (15 : Int32))), .val (.int (p2 &&& (15 : Int32))), .val (.int (p3 &&& (15 : Int32))), .val (.ref b1), .val (.ref b2), .val (.ref b7)] [(.int (1 : Int32)), (.ref b7)])) rfl (by rw [hml]; rfl) (Steps.refl _) (argsL := [(.int (1 : Int32))]) (rest := []) (lenOf pd_4 rfl) rfl (by show 2 * 0 + _ ≤ _; exact Nat.le_of_eq rfl) (hb hby at_88) (fun _ _ => ⟨rfl, eq13, (by decide : 3 + 0 ≤ _), (by decide : 51 + 0 ≤ _)⟩)
  dsimp only [Pt.U, Pt.locs, Pt.cells, Pt.slots] at X16 l16 y16 z16 st16 hQ16
  subst l16 y16 z16
  obtain ⟨rfl, Nq16, eq16⟩ := hQ16
  refine Goes.run st16 ?_
  have N16 := Fr.app N13 Nq16
  show Goes p e below s _ _ _ (T16.setTop (mkF m 91 #[.val (.int p1), .val (.int p2), .val (.int p3), .val (.int (p1 &&& (15 : Int32))), .val (.int (p2 &&& (15 : Int32))), .val (.int (p3 &&& (15 : Int32))), .val (.ref b1), .val (.ref b2), .val (.ref b7)] [(.int (((p1 &&& (15 : Int32)) + (p2 &&& (15 : Int32))) - (p1 &&& (15 : Int32))))]))
  refine Goes.pre (fun t kt => XS.iload X16.here hx rfl (hb hby at_91) rfl kt) ?_
  show Goes p e below s _ _ _ (T16.setTop (mkF m 93 #[.val (.int p1), .val (.int p2), .val (.int p3), .val (.int (p1 &&& (15 : Int32))), .val (.int (p2 &&& (15 : Int32))), .val (.int (p3 &&& (15 : Int32))), .val (.ref b1), .val (.ref b2), .val (.ref b7)] [(.int (p2 &&& (15 : Int32))), (.int (((p1 &&& (15 : Int32)) + (p2 &&& (15 : Int32))) - (p1 &&& (15 : Int32))))]))
  refine Goes.pre (fun t kt => XS.icmpNo X16.here hx rfl (hb hby at_93) rfl (Jvm.Free.XT.ii_ne_f ((own_s1 _ _))) kt) ?_
  show Goes p e below s _ _ _ (T16.setTop (mkF m 96 #[.val (.int p1), .val (.int p2), .val (.int p3), .val (.int (p1 &&& (15 : Int32))), .val (.int (p2 &&& (15 : Int32))), .val (.int (p3 &&& (15 : Int32))), .val (.ref b1), .val (.ref b2), .val (.ref b7)] []))
  refine Goes.pre (fun t kt => XS.aload X16.here hx rfl (hb hby at_96) rfl rfl kt) ?_
  show Goes p e below s _ _ _ (T16.setTop (mkF m 98 #[.val (.int p1), .val (.int p2), .val (.int p3), .val (.int (p1 &&& (15 : Int32))), .val (.int (p2 &&& (15 : Int32))), .val (.int (p3 &&& (15 : Int32))), .val (.ref b1), .val (.ref b2), .val (.ref b7)] [(.ref b7)]))
  refine Goes.pre (fun t kt => XS.iconst X16.here hx rfl (hb hby at_98) kt) ?_
  show Goes p e below s _ _ _ (T16.setTop (mkF m 99 #[.val (.int p1), .val (.int p2), .val (.int p3), .val (.int (p1 &&& (15 : Int32))), .val (.int (p2 &&& (15 : Int32))), .val (.int (p3 &&& (15 : Int32))), .val (.ref b1), .val (.ref b2), .val (.ref b7)] [(.int (2 : Int32)), (.ref b7)]))
  obtain ⟨cq19, kq19, qa19, qb19, qc19⟩ := isOf hZ eq16 fc15
  obtain ⟨_, _, ⟨T18, L18, k18, n18⟩, -, X18, ⟨Lc18, hQ18, l18, y18, z18⟩, st18⟩ := X16.virtualBack hx (y := (⟨"com/example/nosograph/nosograph/input/ByteStrings", "length", "(I)I"⟩ : MethodName)) (z := (⟨"com/example/nosograph/nosograph/input/ByteStrings", "length", "(I)I"⟩ : MethodName)) hown (mvT hZ (hw _ (List.mem_of_getElem? (i := 20) rfl))) (mvT hZ (hw _ (List.mem_of_getElem? (i := 21) rfl))) (notFace_of_selects (args := #[]) (mvT hZ (hw _ (List.mem_of_getElem? (i := 23) rfl)))) (mvT hZ (hw _ (List.mem_of_getElem? (i := 23) rfl))) (mvT hZ (hw _ (List.mem_of_getElem? (i := 22) rfl))) (by decide) (backOf (W := 0) (rm4_2 l Z a0 hw [] b7 b2 k2 (0 : Int32) (p1 &&& (15 : Int32)) ((p1 &&& (15 : Int32)) + (p2 &&& (15 : Int32))) (((p1 &&& (15 : Int32)) + (p2 &&& (15 : Int32))) + (p3 &&& (15 : Int32))) h11 n0 Z11 pq11_0 fc12) hZ (hw _ (List.mem_of_getElem? (i := 24) rfl)) (hw _ (List.mem_of_getElem? (i := 4) rfl)) (by decide) (by decide)) qa19 qc19 (g := (mkF m 99 #[.val (.int p1), .val (.int p2), .val (.int p3), .val (.int (p1 &&& (15 : Int32))), .val (.int (p2 &&& (15 : Int32))), .val (.int (p3 &&& (15 : Int32))), .val (.ref b1), .val (.ref b2), .val (.ref b7)] [(.int (2 : Int32)), (.ref b7)])) rfl (by rw [hml]; rfl) (Steps.refl _) (argsL := [(.int (2 : Int32))]) (rest := []) (lenOf pd_4 rfl) rfl (by show 2 * 0 + _ ≤ _; exact Nat.le_of_eq rfl) (hb hby at_99) (fun _ _ => ⟨rfl, eq16, (by decide : 3 + 0 ≤ _), (by decide : 51 + 0 ≤ _)⟩)
  dsimp only [Pt.U, Pt.locs, Pt.cells, Pt.slots] at X18 l18 y18 z18 st18 hQ18
  subst l18 y18 z18
  obtain ⟨rfl, Nq18, eq18⟩ := hQ18
  refine Goes.run st18 ?_
  have N18 := Fr.app N16 Nq18
  show Goes p e below s _ _ _ (T18.setTop (mkF m 102 #[.val (.int p1), .val (.int p2), .val (.int p3), .val (.int (p1 &&& (15 : Int32))), .val (.int (p2 &&& (15 : Int32))), .val (.int (p3 &&& (15 : Int32))), .val (.ref b1), .val (.ref b2), .val (.ref b7)] [(.int ((((p1 &&& (15 : Int32)) + (p2 &&& (15 : Int32))) + (p3 &&& (15 : Int32))) - ((p1 &&& (15 : Int32)) + (p2 &&& (15 : Int32)))))]))
  refine Goes.pre (fun t kt => XS.iload X18.here hx rfl (hb hby at_102) rfl kt) ?_
  show Goes p e below s _ _ _ (T18.setTop (mkF m 104 #[.val (.int p1), .val (.int p2), .val (.int p3), .val (.int (p1 &&& (15 : Int32))), .val (.int (p2 &&& (15 : Int32))), .val (.int (p3 &&& (15 : Int32))), .val (.ref b1), .val (.ref b2), .val (.ref b7)] [(.int (p3 &&& (15 : Int32))), (.int ((((p1 &&& (15 : Int32)) + (p2 &&& (15 : Int32))) + (p3 &&& (15 : Int32))) - ((p1 &&& (15 : Int32)) + (p2 &&& (15 : Int32)))))]))
  refine Goes.pre (fun t kt => XS.icmpNo X18.here hx rfl (hb hby at_104) rfl (Jvm.Free.XT.ii_ne_f ((own_s1 _ _))) kt) ?_
  show Goes p e below s _ _ _ (T18.setTop (mkF m 107 #[.val (.int p1), .val (.int p2), .val (.int p3), .val (.int (p1 &&& (15 : Int32))), .val (.int (p2 &&& (15 : Int32))), .val (.int (p3 &&& (15 : Int32))), .val (.ref b1), .val (.ref b2), .val (.ref b7)] []))
  refine Goes.pre (fun t kt => XS.iconst X18.here hx rfl (hb hby at_107) kt) ?_
  show Goes p e below s _ _ _ (T18.setTop (mkF m 108 #[.val (.int p1), .val (.int p2), .val (.int p3), .val (.int (p1 &&& (15 : Int32))), .val (.int (p2 &&& (15 : Int32))), .val (.int (p3 &&& (15 : Int32))), .val (.ref b1), .val (.ref b2), .val (.ref b7)] [(.int (1 : Int32))]))
  refine Goes.pre (fun t kt => XS.goto X18.here hx rfl (pc0 := 108) (pc' := 112) rfl (hb hby at_108) (by decide) (by decide) kt) ?_
  show Goes p e below s _ _ _ (T18.setTop (mkF m 112 #[.val (.int p1), .val (.int p2), .val (.int p3), .val (.int (p1 &&& (15 : Int32))), .val (.int (p2 &&& (15 : Int32))), .val (.int (p3 &&& (15 : Int32))), .val (.ref b1), .val (.ref b2), .val (.ref b7)] [(.int (1 : Int32))]))
  refine Goes.ret X18 (some (.int (1 : Int32))) (fun h => by rw [Bd.returns] at h; cases h) (BodyLoose.notSynchronized Bd) (by decide) (by decide) (fun fs hr => retN X18 hx (t := .boolean) Bd.returns (by simp) (hb hby at_112) hr) ?_
  show Q_rm0 Z p1 p2 p3 h0 n0 _ T18.heap _
  rw [eq18]
  exact ⟨rfl, N18⟩
set_option maxRecDepth 65536 in
set_option maxHeartbeats 40000000 in
theorem comes_1 {Post : Tables → Env → Array Value → State → Outcome → State → Prop} (hpost : ∀ tb e args s v u, (limb_1_1.after args s (.returned v) u = true ∧ limb_1_2.after args s (.returned v) u = true ∧ True) → FrameEnd s (.returned v) u (Jvm.fieldLocs frame_1_writes args s ++ Jvm.arrayLocs frame_1_arrays args s ++ Jvm.staticLocs frame_1_statics s) 16 192 → Post tb e args s (.returned v) u) :
    ArmFor flags0 classFile x code maxLocals ret World_1 tables_1 room_1 Calls_1 rest_1 Pre_1 Post := by
  intro l hfl _ _ p e ha hc hk s m args below hf hA hF happ hP
  obtain ⟨hcalls, hrest, hpre⟩ := hP
  obtain ⟨-, -, -, hnamed, -, -, -, hat⟩ := (Spec.applies_iff hf).mp happ
  obtain ⟨hg, hn⟩ := and_e (Cond.before_iff.mp (show (Jvm.Cond.and given_1 narrow_1).before args s = true from hpre))
  obtain ⟨gv1, gv2⟩ := and_e hg
  obtain ⟨gv3, gv4⟩ := and_e gv2
  obtain ⟨gv5, gv6⟩ := and_e gv4
  obtain ⟨w0, w1, w2, rfl⟩ : ∃ w0 w1 w2 : Value, args = #[w0, w1, w2] := by
    have hs : args.size = 3 := by simpa [Cond.value, given_1] using gv1
    obtain ⟨L⟩ := args
    match L, hs with
    | [w0, w1, w2], _ => exact ⟨w0, w1, w2, rfl⟩
  have hw := fun d (hd : d ∈ tables_1) => atoms_spec (ws := Jvm.Cond.code x code maxLocals ret :: tables_1) hat d (List.mem_cons_of_mem _ hd)
  have hfit : Fit s := fun {y c} hc i hi => by
    obtain ⟨ha, rfl⟩ := Array.getElem?_eq_some_iff.mp hc
    have q := List.all_eq_true.mp ((Array.all_eq_true_iff_forall_mem.mp hF) _ (Array.getElem_mem ha)) i (List.mem_range.mpr hi)
    simpa [Array.getElem?_eq_getElem hi] using q
  obtain ⟨i0, ei0⟩ := is_v gv3
  obtain rfl : w0 = (.int i0) := Option.some.inj ei0
  obtain ⟨i1, ei1⟩ := is_v gv5
  obtain rfl : w1 = (.int i1) := Option.some.inj ei1
  obtain ⟨i2, ei2⟩ := is_v gv6
  obtain rfl : w2 = (.int i2) := Option.some.inj ei2
  obtain ⟨n, o, h1, h2, h3, _, L, rfl, ⟨rfl, N⟩, hq⟩ := rm0 l s _ hw tables_1 i0 i1 i2  s.heap s.heap.size (Nat.le_refl _)  p e ha hc hk s m _ below hf ((Spec.applies_iff_loose hf).mp happ).1 ⟨rfl, State.Warmed39.refl s, rfl⟩ trivial
  refine ⟨n, _, h1, h2, h3, hpost _ _ _ _ _ _ ⟨Cond.after_iff.mpr rfl, Cond.after_iff.mpr (eq_i res_at (Term.int_eval (1)) rfl), trivial⟩ ⟨hq.1, hq.2.1, (hq.2.2.sift fun y hy => Or.inr (N y hy)).mono (by decide) (by decide)⟩⟩
theorem main_1_1 : Claimed_1_1 := comes_1 fun _ _ _ _ _ _ h hF => ⟨h.1, hF⟩
theorem main_1_2 : Claimed_1_2 := comes_1 fun _ _ _ _ _ _ h hF => ⟨h.2.1, hF⟩
end Jvm.Pilot.@@N@@
namespace Jvm.Pilot.@@N@@
open Jvm Jvm.ClassFile Sem Op Lib Jvm.Free Jvm.Stand Jvm.Pilot.@@N@@.Jvm.D
/-! MADE BY PROGRAM (witnessworld.py) out of the Statement's table words and the real class files: 10 classes; the members and pool entries that the words name. The judged class is class 1, her method 1. -/
namespace start1
open Jvm.ClassFile
def u (s : String) : CpInfo := .utf8 (stringToUtf16 s)
/-- a pool by its gaps: so many unusable entries, then the entry; so many at the end -/
def gap : Nat → List CpInfo → List CpInfo
  | 0, r => r
  | n + 1, r => .unusable :: gap n r
def poolList (es : List (Nat × CpInfo)) (last : Nat) : List CpInfo := es.foldr (fun e r => gap e.1 (e.2 :: r)) (gap last [])
def pool (es : List (Nat × CpInfo)) (last : Nat) : Array CpInfo := ⟨poolList es last⟩
def fileOf (pool : Array CpInfo) (this : Nat) (attrs : Array Attribute := #[]) (ms : Array MethodInfo := #[]) (fl : Nat := 33) (sup : Nat := 0) (ifs : Array Nat := #[]) (fds : Array FieldInfo := #[]) : ClassFile where
  minorVersion := 0
  majorVersion := 65
  constantPool := pool
  accessFlags := fl
  thisClass := this
  superClass := sup
  interfaces := ifs
  fields := fds
  methods := ms
  attributes := attrs
def plain (name : String) (sup : Option ClassId) : Class where
  name := name
  kind := .ordinary
  loader := none
  accessFlags := 33
  super := sup
  interfaces := #[]
  cf := none
  fields := #[]
  methods := #[]
  instanceTypes := #[]
  staticTypes := #[]
  resolved := #[]
  callSites := []
  init := .initialized
  statics := none
  mirror := none

def pool0 : Array CpInfo := pool [(5, u "<init>"), (0, u "()V"), (1, .class_ 10), (1, u "java/lang/Object")] 113

def k0c0 : Code := { maxStack := 0, maxLocals := 1, code := object_method_1_code, exceptionTable := #[], attributes := #[] }
def k0m0 : Method := { name := "<init>", desc := "()V", sig := { parameters := [], returnType := none }, accessFlags := 1, code := some k0c0 }
/-- java/lang/Object -/
def k0 : Class := { plain "java/lang/Object" none with
  accessFlags := 33
  interfaces := #[]
  cf := some (fileOf pool0 8 #[] #[{ accessFlags := 1, nameIndex := 5, descriptorIndex := 6, attributes := #[] }] 33 0 #[] #[])
  fields := #[]
  methods := #[k0m0]
  instanceTypes := #[]
  staticTypes := #[]
  resolved := Array.replicate 124 none
  statics := none }

def pool1 : Array CpInfo := pool [(2, .class_ 4), (1, u "java/lang/Object"), (0, u "<init>"), (0, u "()V"), (0, .class_ 8), (0, u "com/example/nosograph/nosograph/input/ByteStrings"), (0, .methodref 7 10), (0, .nameAndType 5 11), (0, u "([B[I)V"), (0, .methodref 7 13), (0, .nameAndType 14 15), (0, u "length"), (0, u "(I)I"), (0, .class_ 17), (0, u "com/example/nosograph/nosograph/input/ByteStringsLengthPinLaw"), (2, u "law"), (0, u "(III)Z")] 7

def k1m0 : Method := { name := "<init>", desc := "()V", sig := { parameters := [], returnType := none }, accessFlags := 1, code := none }
def k1c1 : Code := { maxStack := 4, maxLocals := 9, code := code, exceptionTable := #[], attributes := #[] }
def k1m1 : Method := { name := "law", desc := "(III)Z", sig := { parameters := [.int, .int, .int], returnType := some .boolean }, accessFlags := 9, code := some k1c1 }
/-- com/example/nosograph/nosograph/input/ByteStringsLengthPinLaw -/
def k1 : Class := { plain "com/example/nosograph/nosograph/input/ByteStringsLengthPinLaw" (some 0) with
  accessFlags := 49
  interfaces := #[]
  cf := some (fileOf pool1 16 #[] #[{ accessFlags := 1, nameIndex := 5, descriptorIndex := 6, attributes := #[] }, { accessFlags := 9, nameIndex := 20, descriptorIndex := 21, attributes := #[] }] 49 2 #[] #[])
  fields := #[]
  methods := #[k1m0, k1m1]
  instanceTypes := #[]
  staticTypes := #[]
  resolved := Array.replicate 29 none
  statics := none }

def pool2 : Array CpInfo := pool [(1, .methodref 2 3), (0, .class_ 4), (0, .nameAndType 5 6), (0, u "java/lang/Object"), (0, u "<init>"), (0, u "()V"), (0, .class_ 8), (0, u "java/lang/Record")] 13

def k2c0 : Code := { maxStack := 1, maxLocals := 1, code := jdk_30_method_1_code, exceptionTable := #[], attributes := #[] }
def k2m0 : Method := { name := "<init>", desc := "()V", sig := { parameters := [], returnType := none }, accessFlags := 4, code := some k2c0 }
/-- java/lang/Record -/
def k2 : Class := { plain "java/lang/Record" (some 0) with
  accessFlags := 1057
  interfaces := #[]
  cf := some (fileOf pool2 7 #[] #[{ accessFlags := 4, nameIndex := 5, descriptorIndex := 6, attributes := #[] }] 1057 2 #[] #[])
  fields := #[]
  methods := #[k2m0]
  instanceTypes := #[]
  staticTypes := #[]
  resolved := Array.replicate 22 none
  statics := none }

def pool3 : Array CpInfo := pool [(1, .methodref 2 3), (0, .class_ 4), (0, .nameAndType 5 6), (0, u "java/lang/Record"), (0, u "<init>"), (0, u "()V"), (11, .fieldref 19 20), (0, .class_ 21), (0, .nameAndType 22 23), (0, u "com/example/nosograph/nosograph/input/ByteStrings"), (0, u "bytes"), (0, u "[B"), (0, .fieldref 19 25), (0, .nameAndType 26 27), (0, u "starts"), (0, u "[I"), (19, u "([B[I)V"), (0, .class_ 49), (0, u "com/example/nosograph/nosograph/input/ByteStrings$Placed"), (8, u "(I)I"), (54, u "length"), (58, u "UTF8_ORDER"), (0, u "Ljava/util/Comparator;")] 80

def k3c0 : Code := { maxStack := 4, maxLocals := 4, code := prog_11_method_1_code, exceptionTable := #[], attributes := #[] }
def k3m0 : Method := { name := "<init>", desc := "([B[I)V", sig := { parameters := [(.array .byte), (.array .int)], returnType := none }, accessFlags := 1, code := some k3c0 }
def k3c1 : Code := { maxStack := 3, maxLocals := 2, code := prog_11_method_7_code, exceptionTable := #[], attributes := #[] }
def k3m1 : Method := { name := "length", desc := "(I)I", sig := { parameters := [.int], returnType := some .int }, accessFlags := 1, code := some k3c1 }
/-- com/example/nosograph/nosograph/input/ByteStrings -/
def k3 : Class := { plain "com/example/nosograph/nosograph/input/ByteStrings" (some 2) with
  accessFlags := 49
  interfaces := #[]
  cf := some (fileOf pool3 19 #[.nestMembers #[48]] #[{ accessFlags := 1, nameIndex := 5, descriptorIndex := 47, attributes := #[] }, { accessFlags := 1, nameIndex := 113, descriptorIndex := 58, attributes := #[] }] 49 2 #[] #[{ accessFlags := 18, nameIndex := 22, descriptorIndex := 23, attributes := #[] }, { accessFlags := 18, nameIndex := 26, descriptorIndex := 27, attributes := #[] }, { accessFlags := 25, nameIndex := 172, descriptorIndex := 173, attributes := #[] }])
  fields := #[{ name := "bytes", type := (.array .byte), accessFlags := 18, slot := 0, constantValue := 0 }, { name := "starts", type := (.array .int), accessFlags := 18, slot := 1, constantValue := 0 }, { name := "UTF8_ORDER", type := (.object "java/util/Comparator"), accessFlags := 25, slot := 0, constantValue := 0 }]
  methods := #[k3m0, k3m1]
  instanceTypes := #[(.array .byte), (.array .int)]
  staticTypes := #[(.object "java/util/Comparator")]
  resolved := Array.replicate 254 none
  statics := none }

def pool4 : Array CpInfo := pool [(1, u "java/lang/Cloneable"), (0, .class_ 1), (0, u "java/lang/Object"), (0, .class_ 3)] 3

/-- java/lang/Cloneable -/
def k4 : Class := { plain "java/lang/Cloneable" (some 0) with
  accessFlags := 1537
  interfaces := #[]
  cf := some (fileOf pool4 2 #[] #[] 1537 4 #[] #[])
  fields := #[]
  methods := #[]
  instanceTypes := #[]
  staticTypes := #[]
  resolved := Array.replicate 8 none
  statics := none }

def pool5 : Array CpInfo := pool [(1, u "java/io/Serializable"), (0, .class_ 1), (0, u "java/lang/Object"), (0, .class_ 3)] 3

/-- java/io/Serializable -/
def k5 : Class := { plain "java/io/Serializable" (some 0) with
  accessFlags := 1537
  interfaces := #[]
  cf := some (fileOf pool5 2 #[] #[] 1537 4 #[] #[])
  fields := #[]
  methods := #[]
  instanceTypes := #[]
  staticTypes := #[]
  resolved := Array.replicate 8 none
  statics := none }

/-- the primitive byte -/
def k6 : Class := { plain "byte" none with kind := .primitive 'B', accessFlags := 0x411 }
/-- [B -/
def k7 : Class := { plain "[B" (some 0) with kind := .array 6 .byte, interfaces := #[4, 5], accessFlags := 1041 }

/-- the primitive int -/
def k8 : Class := { plain "int" none with kind := .primitive 'I', accessFlags := 0x411 }
/-- [I -/
def k9 : Class := { plain "[I" (some 0) with kind := .array 8 .int, interfaces := #[4, 5], accessFlags := 1041 }

def heap : Heap := #[]
def classes : Array Class := #[k0, k1, k2, k3, k4, k5, k6, k7, k8, k9]
def interned : List (Array UInt16 × Addr) := []
def slotsUsed : Nat := 0
def theMethod : MethodId := ⟨1, 1⟩
def args0 : Array Value := #[.int 5, .int 3, .int 7]
def aboutOver (below : List Frame) : State where
  vm := { classes := classes, interned := interned.toArray }
  heap := heap
  slotsUsed := slotsUsed
  threads := #[{ frames := .invoking theMethod args0 :: below }]
def below0 : List Frame := [.native { method := ⟨0, 0⟩, args := #[] }]
def about1 : State := aboutOver below0
def p0 : Program := .bare "" "" ""
def e0 : Env := launch0.env 0 0 0
theorem w_frames : about1.frames = Frame.invoking theMethod args0 :: below0 := rfl
set_option maxRecDepth 65536 in
theorem w_args : argsFit about1.vm theMethod args0 = true := by decide +kernel
set_option maxRecDepth 65536 in
theorem w_heap : heapFits about1 = true := by decide +kernel
set_option maxRecDepth 65536 in
theorem w_runnable : about1.curStatus? = some .runnable := by decide +kernel
set_option maxRecDepth 65536 in
theorem w_alone : about1.alone = true := by decide +kernel
set_option maxRecDepth 65536 in
theorem w_named : about1.methodNamed? x = some theMethod := by decide +kernel
set_option maxRecDepth 65536 in
theorem w_hears : about1.hears theMethod below0 = true := by decide +kernel
set_option maxRecDepth 65536 in
theorem w_ripe : about1.ripe theMethod args0 below0 = true := by decide +kernel
theorem w_running : about1.status = .running := rfl
set_option maxRecDepth 65536 in
theorem w_room : about1.hasRoom e0.platform room_1 = true :=
  launch0.hasRoom_least _ room_1 (by decide +kernel) (by decide +kernel) (by decide +kernel) (by decide +kernel) (by decide +kernel) (by decide +kernel)
theorem allAtoms_all (ts : List Jvm.Cond) (a : Array Jvm.Value) (st : Jvm.State) : (allAtoms ts).before a st = ts.all (fun c => c.before a st) := by
  induction ts with
  | nil => rfl
  | cons c t ih =>
    show (Jvm.Cond.and c (allAtoms t)).before a st = _
    rw [Jvm.Cond.before_and, ih, List.all_cons]
def words1 : List Jvm.Cond := Jvm.Cond.code x code maxLocals ret :: tables_1
/-- a 'code' word, met by the world's own term for the bytes: nothing is compared byte by byte -/
theorem code_word {y : MethodName} {bytes : ByteArray} {mx : Nat} {rt : Option FieldType} {a : Array Value} {s : State} {m : MethodId} {meth : Method} {c : Code} (h1 : s.methodNamed? y = some m) (h2 : s.vm.method? m = some meth) (h3 : meth.code = some c) (h4 : c.code = bytes)
    (h5 : (c.maxLocals == mx && c.exceptionTable.isEmpty && decide (c.maxStack ≤ mostOperands) && decide (meth.sig.returnType = rt) && !meth.locks && decide (parseMethodDescriptor y.desc = some meth.sig)) = true) : (Jvm.Cond.code y bytes mx rt).before a s = true := by
  simp only [Bool.and_eq_true, beq_iff_eq, Bool.not_eq_true', decide_eq_true_eq] at h5
  obtain ⟨⟨⟨⟨⟨g1, g2⟩, g3⟩, g4⟩, g5⟩, g6⟩ := h5
  simp [Cond.before, Cond.holds, Cond.value, h1, h2, h3, h4, g1, g2, g3, g4, g5, g6]
def isCode : Jvm.Cond → Bool
  | .code _ _ _ _ => true
  | _ => false
theorem all_split {L : List Jvm.Cond} {P : Jvm.Cond → Bool} (h1 : L.all (fun c => isCode c || P c) = true) (h2 : ∀ c ∈ L.filter isCode, P c = true) : L.all P = true := by
  refine List.all_eq_true.mpr fun c hc => ?_
  have h := List.all_eq_true.mp h1 c hc
  rcases Bool.eq_false_or_eq_true (isCode c) with hi | hi
  · exact h2 c (List.mem_filter.mpr ⟨hc, hi⟩)
  · simpa [hi] using h
set_option maxRecDepth 65536 in
theorem w_c0 : (Jvm.Cond.code x code maxLocals ret).before args0 about1 = true := code_word (m := ⟨1, 1⟩) (meth := k1m1) (c := k1c1) (by decide +kernel) rfl rfl rfl (by decide +kernel)
set_option maxRecDepth 65536 in
theorem w_c1 : (Jvm.Cond.code ({ cls := "com/example/nosograph/nosograph/input/ByteStrings", name := "<init>", desc := "([B[I)V" } : Jvm.MethodName) prog_11_method_1_code (4 : Nat) (Option.none : Option Jvm.ClassFile.FieldType)).before args0 about1 = true := code_word (m := ⟨3, 0⟩) (meth := k3m0) (c := k3c0) (by decide +kernel) rfl rfl rfl (by decide +kernel)
set_option maxRecDepth 65536 in
theorem w_c2 : (Jvm.Cond.code ({ cls := "java/lang/Record", name := "<init>", desc := "()V" } : Jvm.MethodName) jdk_30_method_1_code (1 : Nat) (Option.none : Option Jvm.ClassFile.FieldType)).before args0 about1 = true := code_word (m := ⟨2, 0⟩) (meth := k2m0) (c := k2c0) (by decide +kernel) rfl rfl rfl (by decide +kernel)
set_option maxRecDepth 65536 in
theorem w_c3 : (Jvm.Cond.code ({ cls := "java/lang/Object", name := "<init>", desc := "()V" } : Jvm.MethodName) object_method_1_code (1 : Nat) (Option.none : Option Jvm.ClassFile.FieldType)).before args0 about1 = true := code_word (m := ⟨0, 0⟩) (meth := k0m0) (c := k0c0) (by decide +kernel) rfl rfl rfl (by decide +kernel)
set_option maxRecDepth 65536 in
theorem w_c4 : (Jvm.Cond.code ({ cls := "com/example/nosograph/nosograph/input/ByteStrings", name := "length", desc := "(I)I" } : Jvm.MethodName) prog_11_method_7_code (2 : Nat) (Option.some Jvm.ClassFile.FieldType.int)).before args0 about1 = true := code_word (m := ⟨3, 1⟩) (meth := k3m1) (c := k3c1) (by decide +kernel) rfl rfl rfl (by decide +kernel)
def codes1 : List Jvm.Cond := [Jvm.Cond.code x code maxLocals ret, Jvm.Cond.code ({ cls := "com/example/nosograph/nosograph/input/ByteStrings", name := "<init>", desc := "([B[I)V" } : Jvm.MethodName) prog_11_method_1_code (4 : Nat) (Option.none : Option Jvm.ClassFile.FieldType), Jvm.Cond.code ({ cls := "java/lang/Record", name := "<init>", desc := "()V" } : Jvm.MethodName) jdk_30_method_1_code (1 : Nat) (Option.none : Option Jvm.ClassFile.FieldType), Jvm.Cond.code ({ cls := "java/lang/Object", name := "<init>", desc := "()V" } : Jvm.MethodName) object_method_1_code (1 : Nat) (Option.none : Option Jvm.ClassFile.FieldType), Jvm.Cond.code ({ cls := "com/example/nosograph/nosograph/input/ByteStrings", name := "length", desc := "(I)I" } : Jvm.MethodName) prog_11_method_7_code (2 : Nat) (Option.some Jvm.ClassFile.FieldType.int)]
set_option maxRecDepth 65536 in
theorem codes_eq : words1.filter isCode = codes1 := rfl
theorem w_codes : ∀ c ∈ words1.filter isCode, c.before args0 about1 = true := by
  rw [codes_eq]
  intro c hc
  simp only [codes1, List.mem_cons, List.not_mem_nil, or_false] at hc
  rcases hc with rfl | rfl | rfl | rfl | rfl
  · exact w_c0
  · exact w_c1
  · exact w_c2
  · exact w_c3
  · exact w_c4
set_option maxRecDepth 65536 in
theorem w_t1 : (words1.take 24).all (fun c => isCode c || c.before args0 about1) = true := by decide +kernel
set_option maxRecDepth 65536 in
theorem w_t2 : (words1.drop 24).all (fun c => isCode c || c.before args0 about1) = true := by decide +kernel
theorem w_tables : (allAtoms (Jvm.Cond.code x code maxLocals ret :: tables_1)).before args0 about1 = true := by
  rw [allAtoms_all]
  show words1.all (fun c => c.before args0 about1) = true
  refine all_split ?_ w_codes
  rw [← List.take_append_drop 24 words1, List.all_append, w_t1, w_t2]
  rfl
set_option maxRecDepth 65536 in
theorem w_case : (Jvm.Cond.and given_1 narrow_1).before args0 about1 = true := by decide +kernel
theorem w_applies : (headSpec (Jvm.Cond.code x code maxLocals ret :: tables_1) room_1).applies x e0.platform about1 = true :=
  (Spec.applies_iff w_frames).mpr ⟨w_running, w_runnable, w_alone, w_named, w_hears, w_ripe, w_room, w_tables⟩
theorem atStart : AtStart classFile x code maxLocals ret World_1 tables_1 room_1 Calls_1 rest_1 Pre_1 launch0 p0 e0 about1 theMethod args0 below0 :=
  ⟨lists_1, trivial, launch0.admits_env _ _ _, launch0.least_env, fairChoices_fair.cas, fairChoices_fair.clock, w_frames, w_args, w_heap, w_applies, trivial, trivial, w_case⟩
end start1
theorem witness_1 : WitnessClaimed_1 := ⟨start1.p0, start1.e0, start1.about1, start1.theMethod, start1.args0, start1.below0, start1.atStart⟩
end Jvm.Pilot.@@N@@
