import JvmDerived
import JvmDerived.Pilot.@@N@@Statement
import JvmDerived.Pilot.@@N@@Code
set_option linter.unusedVariables false
set_option linter.unusedSimpArgs false
namespace Jvm.Pilot.@@N@@
open Jvm Jvm.ClassFile Sem Op Lib Jvm.Free Jvm.Stand Jvm.LawKit Jvm.RoadKit Bundle Jvm.Pilot.@@N@@.Jvm.D
/-- from A the run comes to an end of the body that says P -/
def Goes (p : Program) (e : Env) (below : List Frame) (s : State) (P : Option Value → Heap → List Loc → Prop) (k n : Nat) (A : State) : Prop :=
  ∃ s₂ o, Steps p.tables e below A s₂ ∧ s₂.status = .running ∧ Ended s₂ below o ∧ ∃ v L, o = .returned v ∧ P v s₂.heap L ∧ FrameEnd s o s₂ L k n
section OwnGoes
variable {p : Program} {l : Launch} {e : Env} {R : Room} {s : State} {m : MethodId} {args : Array Value} {below : List Frame} {meth : Method} {c : Code} {T : State} {locs : List Loc} {cells slots : Nat} {P : Option Value → Heap → List Loc → Prop} {k n : Nat} {A B : State}
theorem Goes.pre (h : ∀ t, Steps p.tables e below B t → Steps p.tables e below A t) (g : Goes p e below s P k n B) : Goes p e below s P k n A := by
  obtain ⟨t, o, h1, r⟩ := g
  exact ⟨t, o, h _ h1, r⟩
theorem Goes.run (h : Steps p.tables e below A B) (g : Goes p e below s P k n B) : Goes p e below s P k n A := g.pre fun _ q => h.trans q
theorem Goes.ret (X : Stand p l e R s m args below meth c T locs cells slots) (v : Option Value) (hv : meth.sig.returnType = none → v = none) (hlocks : meth.locks = false) (hk : cells ≤ k) (hn : slots ≤ n) {f : JFrame}
    (st : ∀ fs : List Frame, (∀ (f : JFrame) (acts : List Action), f.method = m → f.locked = none → f.entered = [] → (doReturn e (T.setTop f) acts v).1 = T.setFrames fs) → Steps p.tables e below (T.setTop f) (T.setFrames fs))
    (hP : P v T.heap locs) : Goes p e below s P k n (T.setTop f) := by
  obtain ⟨fs, hr, hrun, hended, hW, hsame⟩ := X.leave (v := v) hv hlocks
  exact ⟨_, _, st fs hr, hrun, hended, _, _, rfl, hP, ⟨_, rfl⟩, hW, hsame.mono hk hn⟩
end OwnGoes
theorem d2_0 : decode prog_14_method_1_code 0 = .ok (.getstatic 10, 3) := by decide +kernel
theorem d2_3 : decode prog_14_method_1_code 3 = .ok (.invokevirtual 14, 3) := by decide +kernel
theorem d2_6 : decode prog_14_method_1_code 6 = .ok (.checkcast 15, 3) := by decide +kernel
theorem d2_9 : decode prog_14_method_1_code 9 = .ok (.areturn, 1) := by decide +kernel
theorem pn_0 : plainName "com/example/quantail/quantail/SketchFamily" = true := by first | (simp [plainName, overriddenIn]; done) | decide +kernel
def Q_rm2 (Z : State) (va : Addr) (kv : ClassId) (ka : Addr) (ra : Addr) (h0 : Heap) (n0 : Nat) (v : Option Value) (h : Heap) (L : List Loc) : Prop := ∃ r : Addr, v = some (.ref r) ∧ Fr n0 L ∧ Keep h0 h [] ∧ (h0.size ≤ r) ∧ (n0 ≤ r) ∧ (Arv Z h r kv (.object "com/example/quantail/quantail/SketchFamily") (2 : Int32) [(.ref ka), (.ref ra)] .null)
theorem ef_rm2 (m : MethodId)  : entryFrame m #[] 0 = mkF m 0 #[] [] := by first | (simp [entryFrame, mkF, argsToLocals, Value.category]; done) | rfl
set_option maxRecDepth 65536 in
set_option maxHeartbeats 40000000 in
theorem rm2 (l : Launch) (Z : State) (a0 : Array Value) (hw : ∀ d ∈ tables_1, d.before a0 Z = true) (ws : List Jvm.Cond) (va : Addr) (kv : ClassId) (ka : Addr) (ra : Addr) (h0 : Heap) (n0 : Nat) (Z0 : n0 ≤ h0.size) (pf_S_com_example_quantail_quantail_SketchFamily__VALUES : Sta Z Z.heap "com/example/quantail/quantail/SketchFamily" "$VALUES" "[Lcom/example/quantail/quantail/SketchFamily;" (.ref va)) (pf_V_va : Arv Z h0 va kv (.object "com/example/quantail/quantail/SketchFamily") (2 : Int32) [(.ref ka), (.ref ra)] .null) (pf_E_va : Exa Z h0 va "[Lcom/example/quantail/quantail/SketchFamily;") (X00 : Old Z n0 h0) :
    MetFree l (⟨"com/example/quantail/quantail/SketchFamily", "values", "()[Lcom/example/quantail/quantail/SketchFamily;"⟩ : MethodName) (head1 (Jvm.Cond.code (⟨"com/example/quantail/quantail/SketchFamily", "values", "()[Lcom/example/quantail/quantail/SketchFamily;"⟩ : MethodName) prog_14_method_1_code 0 (some (.array (.object "com/example/quantail/quantail/SketchFamily"))) :: ws) ({ frames := 1, cells := 1, slots := 2, locals := 14 } : Room)) (fun a U => a = #[] ∧ Z.Warmed39 U.vm ∧ U.heap = h0) (fun _ _ _ _ _ => True) (fun _ U o U' => ∃ v L, o = .returned v ∧ Q_rm2 Z va kv ka ra h0 n0 v U'.heap L ∧ FrameEnd U o U' L ({ frames := 1, cells := 1, slots := 2, locals := 14 } : Room).cells ({ frames := 1, cells := 1, slots := 2, locals := 14 } : Room).slots) := by
  refine MetFree.of_bodySF (plainFor_of_name pn_0) hisR ?_
  intro p e s m args below meth c s₁ Bd hml0 hP hK
  obtain ⟨rfl, hZ, hh⟩ := hP
  have hx := Bd.exec
  have hby := Bd.bytes
  have hml : c.maxLocals = 0 := hml0
  have hown : s.vm.findClass "com/example/quantail/quantail/SketchFamily" = some m.cls := findClass_of_methodNamed Bd.named
  have hnm := (name_of_methodNamed Bd.named Bd.method).1
  have X0 : Stand p l e ({ frames := 1, cells := 1, slots := 2, locals := 14 } : Room) s m #[] below meth c s₁ [] 0 0 := Stand.of_body Bd
  have e0 : s₁.heap = h0 := by rw [← hh, Bd.state]; rfl
  have N0 := Fr.nil n0
  have K0 := Keep.refl h0 []
  show Goes p e below s (Q_rm2 Z va kv ka ra h0 n0) ({ frames := 1, cells := 1, slots := 2, locals := 14 } : Room).cells ({ frames := 1, cells := 1, slots := 2, locals := 14 } : Room).slots (s₁.setTop (entryFrame m #[] 0))
  refine Goes.pre (fun t kt => castTop (ef_rm2 m ) kt) ?_
  show Goes p e below s _ _ _ (s₁.setTop (mkF m 0 #[] []))
  obtain ⟨T1, X1, e1, st1⟩ := getS2 X0 hx hZ hown (host := "") (Or.inl (hw _ (List.mem_of_getElem? (i := 7) rfl))) Via.refl e0 (pf_S_com_example_quantail_quantail_SketchFamily__VALUES.ext X00.2) (g := (mkF m 0 #[] [])) rfl (hb hby d2_0)
  refine Goes.pre st1 ?_
  show Goes p e below s _ _ _ (T1.setTop (mkF m 3 #[] [(.ref va)]))
  obtain ⟨T2, h2, X2, e2, E2, A2, D2, st2⟩ := cloneH X1 hx hZ hown (hw _ (List.mem_of_getElem? (i := 9) rfl)) (hw _ (List.mem_of_getElem? (i := 10) rfl)) (hw _ (List.mem_of_getElem? (i := 14) rfl)) (hw _ (List.mem_of_getElem? (i := 12) rfl)) (hw _ (List.mem_of_getElem? (i := 13) rfl)) (hw _ (List.mem_of_getElem? (i := 15) rfl)) e1 (Arv.arh pf_V_va) pf_E_va (g := (mkF m 3 #[] [(.ref va)])) rfl (by rw [hml]; rfl) rfl (hb hby d2_3) (by decide) (W := 0) (cap := 2) (by show 2 * 0 + _ ≤ _; exact Nat.le_of_eq rfl) (by decide) (by decide) (by decide) (by decide)
  obtain ⟨b2, g2⟩ : ∃ z, z = h0.size := ⟨_, rfl⟩
  rw [← g2] at A2 D2 st2
  have ltva_2 : va < b2 := Nat.lt_of_lt_of_le pf_E_va.lt (Nat.le_of_eq g2.symm)
  have gg2 : n0 ≤ b2 := Nat.le_trans Z0 (Nat.le_of_eq g2.symm)
  have sz2 : h0.size ≤ b2 := Nat.le_trans K0.1 (Nat.le_of_eq g2.symm)
  have Z2 : n0 ≤ h2.size := Nat.le_trans Z0 E2.1
  have K2 := K0.ext E2
  have Od2 := X00.ext E2
  refine Goes.pre st2 ?_
  have V2 : Arv Z h2 b2 kv (.object "com/example/quantail/quantail/SketchFamily") (2 : Int32) [(.ref ka), (.ref ra)] .null := A2
  show Goes p e below s _ _ _ (T2.setTop (mkF m 6 #[] [(.ref b2)]))
  obtain ⟨T3, X3, e3, st3⟩ := castY X2 hx hZ hown (hw _ (List.mem_of_getElem? (i := 19) rfl)) e2 (Ins.self D2) (g := (mkF m 6 #[] [(.ref b2)])) rfl rfl (hb hby d2_6)
  refine Goes.pre st3 ?_
  show Goes p e below s _ _ _ (T3.setTop (mkF m 9 #[] [(.ref b2)]))
  refine Goes.ret X3 (some (.ref b2)) (fun h => by rw [Bd.returns] at h; cases h) (BodyLoose.notSynchronized Bd) (by decide) (by decide) (fun fs hr => retOut X3 hx (t := (.array (.object "com/example/quantail/quantail/SketchFamily"))) Bd.returns rfl (Or.inr (Or.inr (Or.inr (Or.inr ⟨rfl, rfl, rfl⟩)))) (hb hby d2_9) hr) ?_
  show Q_rm2 Z va kv ka ra h0 n0 _ T3.heap _
  rw [e3]
  exact ⟨b2, rfl, N0, K2, sz2, gg2, V2⟩
theorem d1_0 : decode prog_14_method_6_code 0 = .ok (.aconst_null, 1) := by decide +kernel
theorem d1_1 : decode prog_14_method_6_code 1 = .ok (.astore_n 1, 1) := by decide +kernel
theorem d1_2 : decode prog_14_method_6_code 2 = .ok (.invokestatic 37, 3) := by decide +kernel
theorem pd_1 : parseMethodDescriptor "()[Lcom/example/quantail/quantail/SketchFamily;" = some ⟨[], some (.array (.object "com/example/quantail/quantail/SketchFamily"))⟩ := by decide +kernel
theorem d1_5 : decode prog_14_method_6_code 5 = .ok (.astore_n 2, 1) := by decide +kernel
theorem d1_6 : decode prog_14_method_6_code 6 = .ok (.aload_n 2, 1) := by decide +kernel
theorem d1_7 : decode prog_14_method_6_code 7 = .ok (.arraylength, 1) := by decide +kernel
theorem d1_8 : decode prog_14_method_6_code 8 = .ok (.istore_n 3, 1) := by decide +kernel
theorem d1_9 : decode prog_14_method_6_code 9 = .ok (.iconst 0, 1) := by decide +kernel
theorem d1_10 : decode prog_14_method_6_code 10 = .ok (.istore 4, 2) := by decide +kernel
theorem d1_12 : decode prog_14_method_6_code 12 = .ok (.iload 4, 2) := by decide +kernel
theorem d1_14 : decode prog_14_method_6_code 14 = .ok (.iload_n 3, 1) := by decide +kernel
theorem d1_15 : decode prog_14_method_6_code 15 = .ok (.if_icmp .ge 27, 3) := by decide +kernel
theorem d1_18 : decode prog_14_method_6_code 18 = .ok (.aload_n 2, 1) := by decide +kernel
theorem d1_19 : decode prog_14_method_6_code 19 = .ok (.iload 4, 2) := by decide +kernel
theorem d1_21 : decode prog_14_method_6_code 21 = .ok (.aaload, 1) := by decide +kernel
theorem d1_22 : decode prog_14_method_6_code 22 = .ok (.astore 5, 2) := by decide +kernel
theorem d1_24 : decode prog_14_method_6_code 24 = .ok (.aload 5, 2) := by decide +kernel
theorem d1_26 : decode prog_14_method_6_code 26 = .ok (.getfield 29, 3) := by decide +kernel
theorem d1_29 : decode prog_14_method_6_code 29 = .ok (.iload_n 0, 1) := by decide +kernel
theorem d1_30 : decode prog_14_method_6_code 30 = .ok (.if_icmp .ne 6, 3) := by decide +kernel
theorem d1_33 : decode prog_14_method_6_code 33 = .ok (.aload 5, 2) := by decide +kernel
theorem d1_35 : decode prog_14_method_6_code 35 = .ok (.astore_n 1, 1) := by decide +kernel
theorem d1_36 : decode prog_14_method_6_code 36 = .ok (.iinc 4 1, 3) := by decide +kernel
theorem d1_39 : decode prog_14_method_6_code 39 = .ok (.goto (-27), 3) := by decide +kernel
theorem d1_42 : decode prog_14_method_6_code 42 = .ok (.aload_n 1, 1) := by decide +kernel
theorem d1_43 : decode prog_14_method_6_code 43 = .ok (.areturn, 1) := by decide +kernel
def Q_rm1_1 (Z : State) (pp1 : Int32) (va : Addr) (kv : ClassId) (ka : Addr) (ra : Addr) (h0 : Heap) (n0 : Nat) (v : Option Value) (h : Heap) (L : List Loc) : Prop := v = some (.ref ka) ∧ Fr n0 L ∧ Keep h0 h []
theorem ef_rm1_1 (m : MethodId) (pp1 : Int32) : entryFrame m #[(.int pp1)] 6 = mkF m 0 #[.val (.int pp1), .unset, .unset, .unset, .unset, .unset] [] := by first | (simp [entryFrame, mkF, argsToLocals, Value.category]; done) | rfl
set_option maxRecDepth 65536 in
set_option maxHeartbeats 40000000 in
theorem rm1_1 (l : Launch) (Z : State) (a0 : Array Value) (hw : ∀ d ∈ tables_1, d.before a0 Z = true) (ws : List Jvm.Cond) (pp1 : Int32) (va : Addr) (kv : ClassId) (ka : Addr) (ra : Addr) (h0 : Heap) (n0 : Nat) (Z0 : n0 ≤ h0.size) (pf_S_com_example_quantail_quantail_SketchFamily__VALUES : Sta Z Z.heap "com/example/quantail/quantail/SketchFamily" "$VALUES" "[Lcom/example/quantail/quantail/SketchFamily;" (.ref va)) (pf_V_va : Arv Z h0 va kv (.object "com/example/quantail/quantail/SketchFamily") (2 : Int32) [(.ref ka), (.ref ra)] .null) (pf_E_va : Exa Z h0 va "[Lcom/example/quantail/quantail/SketchFamily;") (pf_F_ka_com_example_quantail_quantail_SketchFamily_code : Fld Z h0 ka "com/example/quantail/quantail/SketchFamily" "code" "I" (.int (1 : Int32))) (pf_F_ra_com_example_quantail_quantail_SketchFamily_code : Fld Z h0 ra "com/example/quantail/quantail/SketchFamily" "code" "I" (.int (2 : Int32))) (hp0 : pp1 = (1 : Int32)) (X00 : Old Z n0 h0) :
    MetFree l (⟨"com/example/quantail/quantail/SketchFamily", "ofCode", "(I)Lcom/example/quantail/quantail/SketchFamily;"⟩ : MethodName) (head1 (Jvm.Cond.code (⟨"com/example/quantail/quantail/SketchFamily", "ofCode", "(I)Lcom/example/quantail/quantail/SketchFamily;"⟩ : MethodName) prog_14_method_6_code 6 (some (.object "com/example/quantail/quantail/SketchFamily")) :: ws) ({ frames := 2, cells := 1, slots := 2, locals := 25 } : Room)) (fun a U => a = #[(.int pp1)] ∧ Z.Warmed39 U.vm ∧ U.heap = h0) (fun _ _ _ _ _ => True) (fun _ U o U' => ∃ v L, o = .returned v ∧ Q_rm1_1 Z pp1 va kv ka ra h0 n0 v U'.heap L ∧ FrameEnd U o U' L ({ frames := 2, cells := 1, slots := 2, locals := 25 } : Room).cells ({ frames := 2, cells := 1, slots := 2, locals := 25 } : Room).slots) := by
  refine MetFree.of_bodySF (plainFor_of_name pn_0) hisR ?_
  intro p e s m args below meth c s₁ Bd hml0 hP hK
  obtain ⟨rfl, hZ, hh⟩ := hP
  have hx := Bd.exec
  have hby := Bd.bytes
  have hml : c.maxLocals = 6 := hml0
  have hown : s.vm.findClass "com/example/quantail/quantail/SketchFamily" = some m.cls := findClass_of_methodNamed Bd.named
  have hnm := (name_of_methodNamed Bd.named Bd.method).1
  have X0 : Stand p l e ({ frames := 2, cells := 1, slots := 2, locals := 25 } : Room) s m #[(.int pp1)] below meth c s₁ [] 0 0 := Stand.of_body Bd
  have e0 : s₁.heap = h0 := by rw [← hh, Bd.state]; rfl
  have N0 := Fr.nil n0
  have K0 := Keep.refl h0 []
  show Goes p e below s (Q_rm1_1 Z pp1 va kv ka ra h0 n0) ({ frames := 2, cells := 1, slots := 2, locals := 25 } : Room).cells ({ frames := 2, cells := 1, slots := 2, locals := 25 } : Room).slots (s₁.setTop (entryFrame m #[(.int pp1)] 6))
  refine Goes.pre (fun t kt => castTop (ef_rm1_1 m pp1) kt) ?_
  show Goes p e below s _ _ _ (s₁.setTop (mkF m 0 #[.val (.int pp1), .unset, .unset, .unset, .unset, .unset] []))
  refine Goes.pre (fun t kt => XS.aconstNull X0.here hx rfl (hb hby d1_0) kt) ?_
  show Goes p e below s _ _ _ (s₁.setTop (mkF m 1 #[.val (.int pp1), .unset, .unset, .unset, .unset, .unset] [.null]))
  refine Goes.pre (fun t kt => XS.astoreN X0.here hx rfl (hb hby d1_1) rfl rfl (l' := #[.val (.int pp1), .val .null, .unset, .unset, .unset, .unset]) rfl kt) ?_
  show Goes p e below s _ _ _ (s₁.setTop (mkF m 2 #[.val (.int pp1), .val .null, .unset, .unset, .unset, .unset] []))
  obtain ⟨_, _, ⟨T1, L1, k1, n1⟩, -, X1, ⟨Lc1, hQ1, l1, y1, z1⟩, st1⟩ := Jvm.LawKit.callS X0 hx (y := (⟨"com/example/quantail/quantail/SketchFamily", "values", "()[Lcom/example/quantail/quantail/SketchFamily;"⟩ : MethodName)) hown (mvT hZ (hw _ (List.mem_of_getElem? (i := 4) rfl))) (mvT hZ (hw _ (List.mem_of_getElem? (i := 5) rfl))) (mvT hZ (hw _ (List.mem_of_getElem? (i := 2) rfl))) (mvT hZ (hw _ (List.mem_of_getElem? (i := 6) rfl))) (by decide) (backOf (W := 0) (rm2 l Z a0 hw [] va kv ka ra h0 n0 Z0 pf_S_com_example_quantail_quantail_SketchFamily__VALUES pf_V_va pf_E_va X00) hZ (hw _ (List.mem_of_getElem? (i := 6) rfl)) (hw _ (List.mem_of_getElem? (i := 2) rfl)) (by decide) (by decide)) (g := (mkF m 2 #[.val (.int pp1), .val .null, .unset, .unset, .unset, .unset] [])) rfl (by rw [hml]; rfl) (argsL := []) (rest := []) (lenOf pd_1 rfl) rfl (by show 2 * 0 + _ ≤ _; exact Nat.le_of_eq rfl) (hb hby d1_2) (fun _ _ => ⟨rfl, e0, (by decide : 0 + 1 ≤ _), (by decide : 0 + 2 ≤ _)⟩)
  dsimp only [Pt.U, Pt.locs, Pt.cells, Pt.slots] at X1 l1 y1 z1 st1 hQ1
  subst l1 y1 z1
  obtain ⟨r_1, rfl, Nq1, Kq1, pq1_0, pq1_1, pq1_2⟩ := hQ1
  refine Goes.pre st1 ?_
  have N1 := Fr.app N0 Nq1
  obtain ⟨h1, e1⟩ : ∃ z, T1.heap = z := ⟨_, rfl⟩
  rw [e1] at Kq1 pq1_2
  have ltva_1_r_1 : va < r_1 := Nat.lt_of_lt_of_le pf_E_va.lt pq1_0
  have szq1_r_1 : h0.size ≤ r_1 := Nat.le_trans K0.1 pq1_0
  have Z1 : n0 ≤ h1.size := Nat.le_trans Z0 Kq1.1
  have Od1 := X00.keep Kq1 all0
  have K1 := K0.trans Kq1 all0
  show Goes p e below s _ _ _ (T1.setTop (mkF m 5 #[.val (.int pp1), .val .null, .unset, .unset, .unset, .unset] [(.ref r_1)]))
  refine Goes.pre (fun t kt => XS.astoreN X1.here hx rfl (hb hby d1_5) rfl rfl (l' := #[.val (.int pp1), .val .null, .val (.ref r_1), .unset, .unset, .unset]) rfl kt) ?_
  show Goes p e below s _ _ _ (T1.setTop (mkF m 6 #[.val (.int pp1), .val .null, .val (.ref r_1), .unset, .unset, .unset] []))
  refine Goes.pre (fun t kt => XS.aloadN X1.here hx rfl (hb hby d1_6) rfl rfl kt) ?_
  show Goes p e below s _ _ _ (T1.setTop (mkF m 7 #[.val (.int pp1), .val .null, .val (.ref r_1), .unset, .unset, .unset] [(.ref r_1)]))
  obtain ⟨cl2, Ar2, aq2, aS2, aN2, aH2, aG2⟩ := pq1_2
  have V2 : Arv Z h1 r_1 kv (.object "com/example/quantail/quantail/SketchFamily") (2 : Int32) [(.ref ka), (.ref ra)] .null := ⟨cl2, Ar2, aq2, aS2, aN2, aH2, aG2⟩
  refine Goes.pre (X1.arraylength hx (by rw [e1]; exact Ar2.1) (State.isArrayOf_alike hZ.alike Ar2.2.1) (g := (mkF m 7 #[.val (.int pp1), .val .null, .val (.ref r_1), .unset, .unset, .unset] [(.ref r_1)])) rfl rfl (hb hby d1_7)) ?_
  rw [len_of aS2 aN2]
  show Goes p e below s _ _ _ (T1.setTop (mkF m 8 #[.val (.int pp1), .val .null, .val (.ref r_1), .unset, .unset, .unset] [(.int (2 : Int32))]))
  refine Goes.pre (fun t kt => XS.istoreN X1.here hx rfl (hb hby d1_8) rfl (l' := #[.val (.int pp1), .val .null, .val (.ref r_1), .val (.int (2 : Int32)), .unset, .unset]) rfl kt) ?_
  show Goes p e below s _ _ _ (T1.setTop (mkF m 9 #[.val (.int pp1), .val .null, .val (.ref r_1), .val (.int (2 : Int32)), .unset, .unset] []))
  refine Goes.pre (fun t kt => XS.iconst X1.here hx rfl (hb hby d1_9) kt) ?_
  show Goes p e below s _ _ _ (T1.setTop (mkF m 10 #[.val (.int pp1), .val .null, .val (.ref r_1), .val (.int (2 : Int32)), .unset, .unset] [(.int (0 : Int32))]))
  refine Goes.pre (fun t kt => XS.istore X1.here hx rfl (hb hby d1_10) rfl (l' := #[.val (.int pp1), .val .null, .val (.ref r_1), .val (.int (2 : Int32)), .val (.int (0 : Int32)), .unset]) rfl kt) ?_
  show Goes p e below s _ _ _ (T1.setTop (mkF m 12 #[.val (.int pp1), .val .null, .val (.ref r_1), .val (.int (2 : Int32)), .val (.int (0 : Int32)), .unset] []))
  refine Goes.pre (fun t kt => XS.iload X1.here hx rfl (hb hby d1_12) rfl kt) ?_
  show Goes p e below s _ _ _ (T1.setTop (mkF m 14 #[.val (.int pp1), .val .null, .val (.ref r_1), .val (.int (2 : Int32)), .val (.int (0 : Int32)), .unset] [(.int (0 : Int32))]))
  refine Goes.pre (fun t kt => XS.iloadN X1.here hx rfl (hb hby d1_14) rfl kt) ?_
  show Goes p e below s _ _ _ (T1.setTop (mkF m 15 #[.val (.int pp1), .val .null, .val (.ref r_1), .val (.int (2 : Int32)), .val (.int (0 : Int32)), .unset] [(.int (2 : Int32)), (.int (0 : Int32))]))
  refine Goes.pre (fun t kt => XS.icmpNo X1.here hx rfl (hb hby d1_15) rfl (Jvm.Free.XT.ii_ge_f ((by decide))) kt) ?_
  show Goes p e below s _ _ _ (T1.setTop (mkF m 18 #[.val (.int pp1), .val .null, .val (.ref r_1), .val (.int (2 : Int32)), .val (.int (0 : Int32)), .unset] []))
  refine Goes.pre (fun t kt => XS.aloadN X1.here hx rfl (hb hby d1_18) rfl rfl kt) ?_
  show Goes p e below s _ _ _ (T1.setTop (mkF m 19 #[.val (.int pp1), .val .null, .val (.ref r_1), .val (.int (2 : Int32)), .val (.int (0 : Int32)), .unset] [(.ref r_1)]))
  refine Goes.pre (fun t kt => XS.iload X1.here hx rfl (hb hby d1_19) rfl kt) ?_
  show Goes p e below s _ _ _ (T1.setTop (mkF m 21 #[.val (.int pp1), .val .null, .val (.ref r_1), .val (.int (2 : Int32)), .val (.int (0 : Int32)), .unset] [(.int (0 : Int32)), (.ref r_1)]))
  obtain ⟨cl3, Ar3, aq3, aS3, aN3, aH3, aG3⟩ := V2
  have V3 : Arv Z h1 r_1 kv (.object "com/example/quantail/quantail/SketchFamily") (2 : Int32) [(.ref ka), (.ref ra)] .null := ⟨cl3, Ar3, aq3, aS3, aN3, aH3, aG3⟩
  have hin3 : ¬ ((0 : Int32) < 0 ∨ cl3.slots.size ≤ ((0 : Int32)).toNatClampNeg) := inb_of aS3 ⟨by decide, by decide⟩
  have hat3 : cl3.slots[((0 : Int32)).toNatClampNeg]? = some (.ref ka) := aH3.at hin3 rfl
  refine Goes.pre (X1.aaload hx (j := (0 : Int32)) (v := (.ref ka)) (by rw [e1]; exact Ar3.1) (State.isArrayOf_alike hZ.alike Ar3.2.1) rfl Ar3.2.2 hin3 hat3 (g := (mkF m 21 #[.val (.int pp1), .val .null, .val (.ref r_1), .val (.int (2 : Int32)), .val (.int (0 : Int32)), .unset] [(.int (0 : Int32)), (.ref r_1)])) rfl rfl (hb hby d1_21)) ?_
  show Goes p e below s _ _ _ (T1.setTop (mkF m 22 #[.val (.int pp1), .val .null, .val (.ref r_1), .val (.int (2 : Int32)), .val (.int (0 : Int32)), .unset] [(.ref ka)]))
  refine Goes.pre (fun t kt => XS.astore X1.here hx rfl (hb hby d1_22) rfl rfl (l' := #[.val (.int pp1), .val .null, .val (.ref r_1), .val (.int (2 : Int32)), .val (.int (0 : Int32)), .val (.ref ka)]) rfl kt) ?_
  show Goes p e below s _ _ _ (T1.setTop (mkF m 24 #[.val (.int pp1), .val .null, .val (.ref r_1), .val (.int (2 : Int32)), .val (.int (0 : Int32)), .val (.ref ka)] []))
  refine Goes.pre (fun t kt => XS.aload X1.here hx rfl (hb hby d1_24) rfl rfl kt) ?_
  show Goes p e below s _ _ _ (T1.setTop (mkF m 26 #[.val (.int pp1), .val .null, .val (.ref r_1), .val (.int (2 : Int32)), .val (.int (0 : Int32)), .val (.ref ka)] [(.ref ka)]))
  have fc4 : Fld Z h1 ka "com/example/quantail/quantail/SketchFamily" "code" "I" (.int (1 : Int32)) := (pf_F_ka_com_example_quantail_quantail_SketchFamily_code.keep Kq1 nin0)
  obtain ⟨T5, X5, e5, st5⟩ := getF X1 hx hZ hown (host := "") (Or.inl (hw _ (List.mem_of_getElem? (i := 21) rfl))) Via.refl e1 fc4 (g := (mkF m 26 #[.val (.int pp1), .val .null, .val (.ref r_1), .val (.int (2 : Int32)), .val (.int (0 : Int32)), .val (.ref ka)] [(.ref ka)])) rfl rfl (hb hby d1_26)
  refine Goes.pre st5 ?_
  show Goes p e below s _ _ _ (T5.setTop (mkF m 29 #[.val (.int pp1), .val .null, .val (.ref r_1), .val (.int (2 : Int32)), .val (.int (0 : Int32)), .val (.ref ka)] [(.int (1 : Int32))]))
  refine Goes.pre (fun t kt => XS.iloadN X5.here hx rfl (hb hby d1_29) rfl kt) ?_
  show Goes p e below s _ _ _ (T5.setTop (mkF m 30 #[.val (.int pp1), .val .null, .val (.ref r_1), .val (.int (2 : Int32)), .val (.int (0 : Int32)), .val (.ref ka)] [(.int pp1), (.int (1 : Int32))]))
  refine Goes.pre (fun t kt => XS.icmpNo X5.here hx rfl (hb hby d1_30) rfl (Jvm.Free.XT.ii_ne_f (hp0.symm)) kt) ?_
  show Goes p e below s _ _ _ (T5.setTop (mkF m 33 #[.val (.int pp1), .val .null, .val (.ref r_1), .val (.int (2 : Int32)), .val (.int (0 : Int32)), .val (.ref ka)] []))
  refine Goes.pre (fun t kt => XS.aload X5.here hx rfl (hb hby d1_33) rfl rfl kt) ?_
  show Goes p e below s _ _ _ (T5.setTop (mkF m 35 #[.val (.int pp1), .val .null, .val (.ref r_1), .val (.int (2 : Int32)), .val (.int (0 : Int32)), .val (.ref ka)] [(.ref ka)]))
  refine Goes.pre (fun t kt => XS.astoreN X5.here hx rfl (hb hby d1_35) rfl rfl (l' := #[.val (.int pp1), .val (.ref ka), .val (.ref r_1), .val (.int (2 : Int32)), .val (.int (0 : Int32)), .val (.ref ka)]) rfl kt) ?_
  show Goes p e below s _ _ _ (T5.setTop (mkF m 36 #[.val (.int pp1), .val (.ref ka), .val (.ref r_1), .val (.int (2 : Int32)), .val (.int (0 : Int32)), .val (.ref ka)] []))
  refine Goes.pre (fun t kt => XS.iinc X5.here hx rfl (hb hby d1_36) rfl (l' := #[.val (.int pp1), .val (.ref ka), .val (.ref r_1), .val (.int (2 : Int32)), .val (.int (1 : Int32)), .val (.ref ka)]) rfl kt) ?_
  show Goes p e below s _ _ _ (T5.setTop (mkF m 39 #[.val (.int pp1), .val (.ref ka), .val (.ref r_1), .val (.int (2 : Int32)), .val (.int (1 : Int32)), .val (.ref ka)] []))
  refine Goes.pre (fun t kt => XS.goto X5.here hx rfl (pc0 := 39) (pc' := 12) rfl (hb hby d1_39) (by decide) (by decide) kt) ?_
  show Goes p e below s _ _ _ (T5.setTop (mkF m 12 #[.val (.int pp1), .val (.ref ka), .val (.ref r_1), .val (.int (2 : Int32)), .val (.int (1 : Int32)), .val (.ref ka)] []))
  refine Goes.pre (fun t kt => XS.iload X5.here hx rfl (hb hby d1_12) rfl kt) ?_
  show Goes p e below s _ _ _ (T5.setTop (mkF m 14 #[.val (.int pp1), .val (.ref ka), .val (.ref r_1), .val (.int (2 : Int32)), .val (.int (1 : Int32)), .val (.ref ka)] [(.int (1 : Int32))]))
  refine Goes.pre (fun t kt => XS.iloadN X5.here hx rfl (hb hby d1_14) rfl kt) ?_
  show Goes p e below s _ _ _ (T5.setTop (mkF m 15 #[.val (.int pp1), .val (.ref ka), .val (.ref r_1), .val (.int (2 : Int32)), .val (.int (1 : Int32)), .val (.ref ka)] [(.int (2 : Int32)), (.int (1 : Int32))]))
  refine Goes.pre (fun t kt => XS.icmpNo X5.here hx rfl (hb hby d1_15) rfl (Jvm.Free.XT.ii_ge_f ((by decide))) kt) ?_
  show Goes p e below s _ _ _ (T5.setTop (mkF m 18 #[.val (.int pp1), .val (.ref ka), .val (.ref r_1), .val (.int (2 : Int32)), .val (.int (1 : Int32)), .val (.ref ka)] []))
  refine Goes.pre (fun t kt => XS.aloadN X5.here hx rfl (hb hby d1_18) rfl rfl kt) ?_
  show Goes p e below s _ _ _ (T5.setTop (mkF m 19 #[.val (.int pp1), .val (.ref ka), .val (.ref r_1), .val (.int (2 : Int32)), .val (.int (1 : Int32)), .val (.ref ka)] [(.ref r_1)]))
  refine Goes.pre (fun t kt => XS.iload X5.here hx rfl (hb hby d1_19) rfl kt) ?_
  show Goes p e below s _ _ _ (T5.setTop (mkF m 21 #[.val (.int pp1), .val (.ref ka), .val (.ref r_1), .val (.int (2 : Int32)), .val (.int (1 : Int32)), .val (.ref ka)] [(.int (1 : Int32)), (.ref r_1)]))
  obtain ⟨cl6, Ar6, aq6, aS6, aN6, aH6, aG6⟩ := V3
  have V6 : Arv Z h1 r_1 kv (.object "com/example/quantail/quantail/SketchFamily") (2 : Int32) [(.ref ka), (.ref ra)] .null := ⟨cl6, Ar6, aq6, aS6, aN6, aH6, aG6⟩
  have hin6 : ¬ ((1 : Int32) < 0 ∨ cl6.slots.size ≤ ((1 : Int32)).toNatClampNeg) := inb_of aS6 ⟨by decide, by decide⟩
  have hat6 : cl6.slots[((1 : Int32)).toNatClampNeg]? = some (.ref ra) := aH6.at hin6 rfl
  refine Goes.pre (X5.aaload hx (j := (1 : Int32)) (v := (.ref ra)) (by rw [e5]; exact Ar6.1) (State.isArrayOf_alike hZ.alike Ar6.2.1) rfl Ar6.2.2 hin6 hat6 (g := (mkF m 21 #[.val (.int pp1), .val (.ref ka), .val (.ref r_1), .val (.int (2 : Int32)), .val (.int (1 : Int32)), .val (.ref ka)] [(.int (1 : Int32)), (.ref r_1)])) rfl rfl (hb hby d1_21)) ?_
  show Goes p e below s _ _ _ (T5.setTop (mkF m 22 #[.val (.int pp1), .val (.ref ka), .val (.ref r_1), .val (.int (2 : Int32)), .val (.int (1 : Int32)), .val (.ref ka)] [(.ref ra)]))
  refine Goes.pre (fun t kt => XS.astore X5.here hx rfl (hb hby d1_22) rfl rfl (l' := #[.val (.int pp1), .val (.ref ka), .val (.ref r_1), .val (.int (2 : Int32)), .val (.int (1 : Int32)), .val (.ref ra)]) rfl kt) ?_
  show Goes p e below s _ _ _ (T5.setTop (mkF m 24 #[.val (.int pp1), .val (.ref ka), .val (.ref r_1), .val (.int (2 : Int32)), .val (.int (1 : Int32)), .val (.ref ra)] []))
  refine Goes.pre (fun t kt => XS.aload X5.here hx rfl (hb hby d1_24) rfl rfl kt) ?_
  show Goes p e below s _ _ _ (T5.setTop (mkF m 26 #[.val (.int pp1), .val (.ref ka), .val (.ref r_1), .val (.int (2 : Int32)), .val (.int (1 : Int32)), .val (.ref ra)] [(.ref ra)]))
  have fc7 : Fld Z h1 ra "com/example/quantail/quantail/SketchFamily" "code" "I" (.int (2 : Int32)) := (pf_F_ra_com_example_quantail_quantail_SketchFamily_code.keep Kq1 nin0)
  obtain ⟨T8, X8, e8, st8⟩ := getF X5 hx hZ hown (host := "") (Or.inl (hw _ (List.mem_of_getElem? (i := 21) rfl))) Via.refl e5 fc7 (g := (mkF m 26 #[.val (.int pp1), .val (.ref ka), .val (.ref r_1), .val (.int (2 : Int32)), .val (.int (1 : Int32)), .val (.ref ra)] [(.ref ra)])) rfl rfl (hb hby d1_26)
  refine Goes.pre st8 ?_
  show Goes p e below s _ _ _ (T8.setTop (mkF m 29 #[.val (.int pp1), .val (.ref ka), .val (.ref r_1), .val (.int (2 : Int32)), .val (.int (1 : Int32)), .val (.ref ra)] [(.int (2 : Int32))]))
  refine Goes.pre (fun t kt => XS.iloadN X8.here hx rfl (hb hby d1_29) rfl kt) ?_
  show Goes p e below s _ _ _ (T8.setTop (mkF m 30 #[.val (.int pp1), .val (.ref ka), .val (.ref r_1), .val (.int (2 : Int32)), .val (.int (1 : Int32)), .val (.ref ra)] [(.int pp1), (.int (2 : Int32))]))
  refine Goes.pre (fun t kt => XS.icmpYes X8.here hx rfl (pc0 := 30) (pc' := 36) rfl (hb hby d1_30) rfl (Jvm.Free.XT.ii_ne_t ((by rw [hp0]; decide))) (by decide) (by decide) kt) ?_
  show Goes p e below s _ _ _ (T8.setTop (mkF m 36 #[.val (.int pp1), .val (.ref ka), .val (.ref r_1), .val (.int (2 : Int32)), .val (.int (1 : Int32)), .val (.ref ra)] []))
  refine Goes.pre (fun t kt => XS.iinc X8.here hx rfl (hb hby d1_36) rfl (l' := #[.val (.int pp1), .val (.ref ka), .val (.ref r_1), .val (.int (2 : Int32)), .val (.int (2 : Int32)), .val (.ref ra)]) rfl kt) ?_
  show Goes p e below s _ _ _ (T8.setTop (mkF m 39 #[.val (.int pp1), .val (.ref ka), .val (.ref r_1), .val (.int (2 : Int32)), .val (.int (2 : Int32)), .val (.ref ra)] []))
  refine Goes.pre (fun t kt => XS.goto X8.here hx rfl (pc0 := 39) (pc' := 12) rfl (hb hby d1_39) (by decide) (by decide) kt) ?_
  show Goes p e below s _ _ _ (T8.setTop (mkF m 12 #[.val (.int pp1), .val (.ref ka), .val (.ref r_1), .val (.int (2 : Int32)), .val (.int (2 : Int32)), .val (.ref ra)] []))
  refine Goes.pre (fun t kt => XS.iload X8.here hx rfl (hb hby d1_12) rfl kt) ?_
  show Goes p e below s _ _ _ (T8.setTop (mkF m 14 #[.val (.int pp1), .val (.ref ka), .val (.ref r_1), .val (.int (2 : Int32)), .val (.int (2 : Int32)), .val (.ref ra)] [(.int (2 : Int32))]))
  refine Goes.pre (fun t kt => XS.iloadN X8.here hx rfl (hb hby d1_14) rfl kt) ?_
  show Goes p e below s _ _ _ (T8.setTop (mkF m 15 #[.val (.int pp1), .val (.ref ka), .val (.ref r_1), .val (.int (2 : Int32)), .val (.int (2 : Int32)), .val (.ref ra)] [(.int (2 : Int32)), (.int (2 : Int32))]))
  refine Goes.pre (fun t kt => XS.icmpYes X8.here hx rfl (pc0 := 15) (pc' := 42) rfl (hb hby d1_15) rfl (Jvm.Free.XT.ii_ge_t ((by decide))) (by decide) (by decide) kt) ?_
  show Goes p e below s _ _ _ (T8.setTop (mkF m 42 #[.val (.int pp1), .val (.ref ka), .val (.ref r_1), .val (.int (2 : Int32)), .val (.int (2 : Int32)), .val (.ref ra)] []))
  refine Goes.pre (fun t kt => XS.aloadN X8.here hx rfl (hb hby d1_42) rfl rfl kt) ?_
  show Goes p e below s _ _ _ (T8.setTop (mkF m 43 #[.val (.int pp1), .val (.ref ka), .val (.ref r_1), .val (.int (2 : Int32)), .val (.int (2 : Int32)), .val (.ref ra)] [(.ref ka)]))
  refine Goes.ret X8 (some (.ref ka)) (fun h => by rw [Bd.returns] at h; cases h) (BodyLoose.notSynchronized Bd) (by decide) (by decide) (fun fs hr => retOut X8 hx (t := (.object "com/example/quantail/quantail/SketchFamily")) Bd.returns rfl (Or.inr (Or.inr (Or.inr (Or.inr ⟨rfl, rfl, rfl⟩)))) (hb hby d1_43) hr) ?_
  show Q_rm1_1 Z pp1 va kv ka ra h0 n0 _ T8.heap _
  rw [e8]
  exact ⟨rfl, N1, K1⟩
def Q_rm1_2 (Z : State) (pp1 : Int32) (va : Addr) (kv : ClassId) (ka : Addr) (ra : Addr) (h0 : Heap) (n0 : Nat) (v : Option Value) (h : Heap) (L : List Loc) : Prop := v = some (.ref ra) ∧ Fr n0 L ∧ Keep h0 h []
theorem ef_rm1_2 (m : MethodId) (pp1 : Int32) : entryFrame m #[(.int pp1)] 6 = mkF m 0 #[.val (.int pp1), .unset, .unset, .unset, .unset, .unset] [] := by first | (simp [entryFrame, mkF, argsToLocals, Value.category]; done) | rfl
set_option maxRecDepth 65536 in
set_option maxHeartbeats 40000000 in
theorem rm1_2 (l : Launch) (Z : State) (a0 : Array Value) (hw : ∀ d ∈ tables_1, d.before a0 Z = true) (ws : List Jvm.Cond) (pp1 : Int32) (va : Addr) (kv : ClassId) (ka : Addr) (ra : Addr) (h0 : Heap) (n0 : Nat) (Z0 : n0 ≤ h0.size) (pf_S_com_example_quantail_quantail_SketchFamily__VALUES : Sta Z Z.heap "com/example/quantail/quantail/SketchFamily" "$VALUES" "[Lcom/example/quantail/quantail/SketchFamily;" (.ref va)) (pf_V_va : Arv Z h0 va kv (.object "com/example/quantail/quantail/SketchFamily") (2 : Int32) [(.ref ka), (.ref ra)] .null) (pf_E_va : Exa Z h0 va "[Lcom/example/quantail/quantail/SketchFamily;") (pf_F_ka_com_example_quantail_quantail_SketchFamily_code : Fld Z h0 ka "com/example/quantail/quantail/SketchFamily" "code" "I" (.int (1 : Int32))) (pf_F_ra_com_example_quantail_quantail_SketchFamily_code : Fld Z h0 ra "com/example/quantail/quantail/SketchFamily" "code" "I" (.int (2 : Int32))) (hp0 : pp1 = (2 : Int32)) (X00 : Old Z n0 h0) :
    MetFree l (⟨"com/example/quantail/quantail/SketchFamily", "ofCode", "(I)Lcom/example/quantail/quantail/SketchFamily;"⟩ : MethodName) (head1 (Jvm.Cond.code (⟨"com/example/quantail/quantail/SketchFamily", "ofCode", "(I)Lcom/example/quantail/quantail/SketchFamily;"⟩ : MethodName) prog_14_method_6_code 6 (some (.object "com/example/quantail/quantail/SketchFamily")) :: ws) ({ frames := 2, cells := 1, slots := 2, locals := 25 } : Room)) (fun a U => a = #[(.int pp1)] ∧ Z.Warmed39 U.vm ∧ U.heap = h0) (fun _ _ _ _ _ => True) (fun _ U o U' => ∃ v L, o = .returned v ∧ Q_rm1_2 Z pp1 va kv ka ra h0 n0 v U'.heap L ∧ FrameEnd U o U' L ({ frames := 2, cells := 1, slots := 2, locals := 25 } : Room).cells ({ frames := 2, cells := 1, slots := 2, locals := 25 } : Room).slots) := by
  refine MetFree.of_bodySF (plainFor_of_name pn_0) hisR ?_
  intro p e s m args below meth c s₁ Bd hml0 hP hK
  obtain ⟨rfl, hZ, hh⟩ := hP
  have hx := Bd.exec
  have hby := Bd.bytes
  have hml : c.maxLocals = 6 := hml0
  have hown : s.vm.findClass "com/example/quantail/quantail/SketchFamily" = some m.cls := findClass_of_methodNamed Bd.named
  have hnm := (name_of_methodNamed Bd.named Bd.method).1
  have X0 : Stand p l e ({ frames := 2, cells := 1, slots := 2, locals := 25 } : Room) s m #[(.int pp1)] below meth c s₁ [] 0 0 := Stand.of_body Bd
  have e0 : s₁.heap = h0 := by rw [← hh, Bd.state]; rfl
  have N0 := Fr.nil n0
  have K0 := Keep.refl h0 []
  show Goes p e below s (Q_rm1_2 Z pp1 va kv ka ra h0 n0) ({ frames := 2, cells := 1, slots := 2, locals := 25 } : Room).cells ({ frames := 2, cells := 1, slots := 2, locals := 25 } : Room).slots (s₁.setTop (entryFrame m #[(.int pp1)] 6))
  refine Goes.pre (fun t kt => castTop (ef_rm1_2 m pp1) kt) ?_
  show Goes p e below s _ _ _ (s₁.setTop (mkF m 0 #[.val (.int pp1), .unset, .unset, .unset, .unset, .unset] []))
  refine Goes.pre (fun t kt => XS.aconstNull X0.here hx rfl (hb hby d1_0) kt) ?_
  show Goes p e below s _ _ _ (s₁.setTop (mkF m 1 #[.val (.int pp1), .unset, .unset, .unset, .unset, .unset] [.null]))
  refine Goes.pre (fun t kt => XS.astoreN X0.here hx rfl (hb hby d1_1) rfl rfl (l' := #[.val (.int pp1), .val .null, .unset, .unset, .unset, .unset]) rfl kt) ?_
  show Goes p e below s _ _ _ (s₁.setTop (mkF m 2 #[.val (.int pp1), .val .null, .unset, .unset, .unset, .unset] []))
  obtain ⟨_, _, ⟨T1, L1, k1, n1⟩, -, X1, ⟨Lc1, hQ1, l1, y1, z1⟩, st1⟩ := Jvm.LawKit.callS X0 hx (y := (⟨"com/example/quantail/quantail/SketchFamily", "values", "()[Lcom/example/quantail/quantail/SketchFamily;"⟩ : MethodName)) hown (mvT hZ (hw _ (List.mem_of_getElem? (i := 4) rfl))) (mvT hZ (hw _ (List.mem_of_getElem? (i := 5) rfl))) (mvT hZ (hw _ (List.mem_of_getElem? (i := 2) rfl))) (mvT hZ (hw _ (List.mem_of_getElem? (i := 6) rfl))) (by decide) (backOf (W := 0) (rm2 l Z a0 hw [] va kv ka ra h0 n0 Z0 pf_S_com_example_quantail_quantail_SketchFamily__VALUES pf_V_va pf_E_va X00) hZ (hw _ (List.mem_of_getElem? (i := 6) rfl)) (hw _ (List.mem_of_getElem? (i := 2) rfl)) (by decide) (by decide)) (g := (mkF m 2 #[.val (.int pp1), .val .null, .unset, .unset, .unset, .unset] [])) rfl (by rw [hml]; rfl) (argsL := []) (rest := []) (lenOf pd_1 rfl) rfl (by show 2 * 0 + _ ≤ _; exact Nat.le_of_eq rfl) (hb hby d1_2) (fun _ _ => ⟨rfl, e0, (by decide : 0 + 1 ≤ _), (by decide : 0 + 2 ≤ _)⟩)
  dsimp only [Pt.U, Pt.locs, Pt.cells, Pt.slots] at X1 l1 y1 z1 st1 hQ1
  subst l1 y1 z1
  obtain ⟨r_1, rfl, Nq1, Kq1, pq1_0, pq1_1, pq1_2⟩ := hQ1
  refine Goes.pre st1 ?_
  have N1 := Fr.app N0 Nq1
  obtain ⟨h1, e1⟩ : ∃ z, T1.heap = z := ⟨_, rfl⟩
  rw [e1] at Kq1 pq1_2
  have ltva_1_r_1 : va < r_1 := Nat.lt_of_lt_of_le pf_E_va.lt pq1_0
  have szq1_r_1 : h0.size ≤ r_1 := Nat.le_trans K0.1 pq1_0
  have Z1 : n0 ≤ h1.size := Nat.le_trans Z0 Kq1.1
  have Od1 := X00.keep Kq1 all0
  have K1 := K0.trans Kq1 all0
  show Goes p e below s _ _ _ (T1.setTop (mkF m 5 #[.val (.int pp1), .val .null, .unset, .unset, .unset, .unset] [(.ref r_1)]))
  refine Goes.pre (fun t kt => XS.astoreN X1.here hx rfl (hb hby d1_5) rfl rfl (l' := #[.val (.int pp1), .val .null, .val (.ref r_1), .unset, .unset, .unset]) rfl kt) ?_
  show Goes p e below s _ _ _ (T1.setTop (mkF m 6 #[.val (.int pp1), .val .null, .val (.ref r_1), .unset, .unset, .unset] []))
  refine Goes.pre (fun t kt => XS.aloadN X1.here hx rfl (hb hby d1_6) rfl rfl kt) ?_
  show Goes p e below s _ _ _ (T1.setTop (mkF m 7 #[.val (.int pp1), .val .null, .val (.ref r_1), .unset, .unset, .unset] [(.ref r_1)]))
  obtain ⟨cl2, Ar2, aq2, aS2, aN2, aH2, aG2⟩ := pq1_2
  have V2 : Arv Z h1 r_1 kv (.object "com/example/quantail/quantail/SketchFamily") (2 : Int32) [(.ref ka), (.ref ra)] .null := ⟨cl2, Ar2, aq2, aS2, aN2, aH2, aG2⟩
  refine Goes.pre (X1.arraylength hx (by rw [e1]; exact Ar2.1) (State.isArrayOf_alike hZ.alike Ar2.2.1) (g := (mkF m 7 #[.val (.int pp1), .val .null, .val (.ref r_1), .unset, .unset, .unset] [(.ref r_1)])) rfl rfl (hb hby d1_7)) ?_
  rw [len_of aS2 aN2]
  show Goes p e below s _ _ _ (T1.setTop (mkF m 8 #[.val (.int pp1), .val .null, .val (.ref r_1), .unset, .unset, .unset] [(.int (2 : Int32))]))
  refine Goes.pre (fun t kt => XS.istoreN X1.here hx rfl (hb hby d1_8) rfl (l' := #[.val (.int pp1), .val .null, .val (.ref r_1), .val (.int (2 : Int32)), .unset, .unset]) rfl kt) ?_
  show Goes p e below s _ _ _ (T1.setTop (mkF m 9 #[.val (.int pp1), .val .null, .val (.ref r_1), .val (.int (2 : Int32)), .unset, .unset] []))
  refine Goes.pre (fun t kt => XS.iconst X1.here hx rfl (hb hby d1_9) kt) ?_
  show Goes p e below s _ _ _ (T1.setTop (mkF m 10 #[.val (.int pp1), .val .null, .val (.ref r_1), .val (.int (2 : Int32)), .unset, .unset] [(.int (0 : Int32))]))
  refine Goes.pre (fun t kt => XS.istore X1.here hx rfl (hb hby d1_10) rfl (l' := #[.val (.int pp1), .val .null, .val (.ref r_1), .val (.int (2 : Int32)), .val (.int (0 : Int32)), .unset]) rfl kt) ?_
  show Goes p e below s _ _ _ (T1.setTop (mkF m 12 #[.val (.int pp1), .val .null, .val (.ref r_1), .val (.int (2 : Int32)), .val (.int (0 : Int32)), .unset] []))
  refine Goes.pre (fun t kt => XS.iload X1.here hx rfl (hb hby d1_12) rfl kt) ?_
  show Goes p e below s _ _ _ (T1.setTop (mkF m 14 #[.val (.int pp1), .val .null, .val (.ref r_1), .val (.int (2 : Int32)), .val (.int (0 : Int32)), .unset] [(.int (0 : Int32))]))
  refine Goes.pre (fun t kt => XS.iloadN X1.here hx rfl (hb hby d1_14) rfl kt) ?_
  show Goes p e below s _ _ _ (T1.setTop (mkF m 15 #[.val (.int pp1), .val .null, .val (.ref r_1), .val (.int (2 : Int32)), .val (.int (0 : Int32)), .unset] [(.int (2 : Int32)), (.int (0 : Int32))]))
  refine Goes.pre (fun t kt => XS.icmpNo X1.here hx rfl (hb hby d1_15) rfl (Jvm.Free.XT.ii_ge_f ((by decide))) kt) ?_
  show Goes p e below s _ _ _ (T1.setTop (mkF m 18 #[.val (.int pp1), .val .null, .val (.ref r_1), .val (.int (2 : Int32)), .val (.int (0 : Int32)), .unset] []))
  refine Goes.pre (fun t kt => XS.aloadN X1.here hx rfl (hb hby d1_18) rfl rfl kt) ?_
  show Goes p e below s _ _ _ (T1.setTop (mkF m 19 #[.val (.int pp1), .val .null, .val (.ref r_1), .val (.int (2 : Int32)), .val (.int (0 : Int32)), .unset] [(.ref r_1)]))
  refine Goes.pre (fun t kt => XS.iload X1.here hx rfl (hb hby d1_19) rfl kt) ?_
  show Goes p e below s _ _ _ (T1.setTop (mkF m 21 #[.val (.int pp1), .val .null, .val (.ref r_1), .val (.int (2 : Int32)), .val (.int (0 : Int32)), .unset] [(.int (0 : Int32)), (.ref r_1)]))
  obtain ⟨cl3, Ar3, aq3, aS3, aN3, aH3, aG3⟩ := V2
  have V3 : Arv Z h1 r_1 kv (.object "com/example/quantail/quantail/SketchFamily") (2 : Int32) [(.ref ka), (.ref ra)] .null := ⟨cl3, Ar3, aq3, aS3, aN3, aH3, aG3⟩
  have hin3 : ¬ ((0 : Int32) < 0 ∨ cl3.slots.size ≤ ((0 : Int32)).toNatClampNeg) := inb_of aS3 ⟨by decide, by decide⟩
  have hat3 : cl3.slots[((0 : Int32)).toNatClampNeg]? = some (.ref ka) := aH3.at hin3 rfl
  refine Goes.pre (X1.aaload hx (j := (0 : Int32)) (v := (.ref ka)) (by rw [e1]; exact Ar3.1) (State.isArrayOf_alike hZ.alike Ar3.2.1) rfl Ar3.2.2 hin3 hat3 (g := (mkF m 21 #[.val (.int pp1), .val .null, .val (.ref r_1), .val (.int (2 : Int32)), .val (.int (0 : Int32)), .unset] [(.int (0 : Int32)), (.ref r_1)])) rfl rfl (hb hby d1_21)) ?_
  show Goes p e below s _ _ _ (T1.setTop (mkF m 22 #[.val (.int pp1), .val .null, .val (.ref r_1), .val (.int (2 : Int32)), .val (.int (0 : Int32)), .unset] [(.ref ka)]))
  refine Goes.pre (fun t kt => XS.astore X1.here hx rfl (hb hby d1_22) rfl rfl (l' := #[.val (.int pp1), .val .null, .val (.ref r_1), .val (.int (2 : Int32)), .val (.int (0 : Int32)), .val (.ref ka)]) rfl kt) ?_
  show Goes p e below s _ _ _ (T1.setTop (mkF m 24 #[.val (.int pp1), .val .null, .val (.ref r_1), .val (.int (2 : Int32)), .val (.int (0 : Int32)), .val (.ref ka)] []))
  refine Goes.pre (fun t kt => XS.aload X1.here hx rfl (hb hby d1_24) rfl rfl kt) ?_
  show Goes p e below s _ _ _ (T1.setTop (mkF m 26 #[.val (.int pp1), .val .null, .val (.ref r_1), .val (.int (2 : Int32)), .val (.int (0 : Int32)), .val (.ref ka)] [(.ref ka)]))
  have fc4 : Fld Z h1 ka "com/example/quantail/quantail/SketchFamily" "code" "I" (.int (1 : Int32)) := (pf_F_ka_com_example_quantail_quantail_SketchFamily_code.keep Kq1 nin0)
  obtain ⟨T5, X5, e5, st5⟩ := getF X1 hx hZ hown (host := "") (Or.inl (hw _ (List.mem_of_getElem? (i := 21) rfl))) Via.refl e1 fc4 (g := (mkF m 26 #[.val (.int pp1), .val .null, .val (.ref r_1), .val (.int (2 : Int32)), .val (.int (0 : Int32)), .val (.ref ka)] [(.ref ka)])) rfl rfl (hb hby d1_26)
  refine Goes.pre st5 ?_
  show Goes p e below s _ _ _ (T5.setTop (mkF m 29 #[.val (.int pp1), .val .null, .val (.ref r_1), .val (.int (2 : Int32)), .val (.int (0 : Int32)), .val (.ref ka)] [(.int (1 : Int32))]))
  refine Goes.pre (fun t kt => XS.iloadN X5.here hx rfl (hb hby d1_29) rfl kt) ?_
  show Goes p e below s _ _ _ (T5.setTop (mkF m 30 #[.val (.int pp1), .val .null, .val (.ref r_1), .val (.int (2 : Int32)), .val (.int (0 : Int32)), .val (.ref ka)] [(.int pp1), (.int (1 : Int32))]))
  refine Goes.pre (fun t kt => XS.icmpYes X5.here hx rfl (pc0 := 30) (pc' := 36) rfl (hb hby d1_30) rfl (Jvm.Free.XT.ii_ne_t ((by rw [hp0]; decide))) (by decide) (by decide) kt) ?_
  show Goes p e below s _ _ _ (T5.setTop (mkF m 36 #[.val (.int pp1), .val .null, .val (.ref r_1), .val (.int (2 : Int32)), .val (.int (0 : Int32)), .val (.ref ka)] []))
  refine Goes.pre (fun t kt => XS.iinc X5.here hx rfl (hb hby d1_36) rfl (l' := #[.val (.int pp1), .val .null, .val (.ref r_1), .val (.int (2 : Int32)), .val (.int (1 : Int32)), .val (.ref ka)]) rfl kt) ?_
  show Goes p e below s _ _ _ (T5.setTop (mkF m 39 #[.val (.int pp1), .val .null, .val (.ref r_1), .val (.int (2 : Int32)), .val (.int (1 : Int32)), .val (.ref ka)] []))
  refine Goes.pre (fun t kt => XS.goto X5.here hx rfl (pc0 := 39) (pc' := 12) rfl (hb hby d1_39) (by decide) (by decide) kt) ?_
  show Goes p e below s _ _ _ (T5.setTop (mkF m 12 #[.val (.int pp1), .val .null, .val (.ref r_1), .val (.int (2 : Int32)), .val (.int (1 : Int32)), .val (.ref ka)] []))
  refine Goes.pre (fun t kt => XS.iload X5.here hx rfl (hb hby d1_12) rfl kt) ?_
  show Goes p e below s _ _ _ (T5.setTop (mkF m 14 #[.val (.int pp1), .val .null, .val (.ref r_1), .val (.int (2 : Int32)), .val (.int (1 : Int32)), .val (.ref ka)] [(.int (1 : Int32))]))
  refine Goes.pre (fun t kt => XS.iloadN X5.here hx rfl (hb hby d1_14) rfl kt) ?_
  show Goes p e below s _ _ _ (T5.setTop (mkF m 15 #[.val (.int pp1), .val .null, .val (.ref r_1), .val (.int (2 : Int32)), .val (.int (1 : Int32)), .val (.ref ka)] [(.int (2 : Int32)), (.int (1 : Int32))]))
  refine Goes.pre (fun t kt => XS.icmpNo X5.here hx rfl (hb hby d1_15) rfl (Jvm.Free.XT.ii_ge_f ((by decide))) kt) ?_
  show Goes p e below s _ _ _ (T5.setTop (mkF m 18 #[.val (.int pp1), .val .null, .val (.ref r_1), .val (.int (2 : Int32)), .val (.int (1 : Int32)), .val (.ref ka)] []))
  refine Goes.pre (fun t kt => XS.aloadN X5.here hx rfl (hb hby d1_18) rfl rfl kt) ?_
  show Goes p e below s _ _ _ (T5.setTop (mkF m 19 #[.val (.int pp1), .val .null, .val (.ref r_1), .val (.int (2 : Int32)), .val (.int (1 : Int32)), .val (.ref ka)] [(.ref r_1)]))
  refine Goes.pre (fun t kt => XS.iload X5.here hx rfl (hb hby d1_19) rfl kt) ?_
  show Goes p e below s _ _ _ (T5.setTop (mkF m 21 #[.val (.int pp1), .val .null, .val (.ref r_1), .val (.int (2 : Int32)), .val (.int (1 : Int32)), .val (.ref ka)] [(.int (1 : Int32)), (.ref r_1)]))
  obtain ⟨cl6, Ar6, aq6, aS6, aN6, aH6, aG6⟩ := V3
  have V6 : Arv Z h1 r_1 kv (.object "com/example/quantail/quantail/SketchFamily") (2 : Int32) [(.ref ka), (.ref ra)] .null := ⟨cl6, Ar6, aq6, aS6, aN6, aH6, aG6⟩
  have hin6 : ¬ ((1 : Int32) < 0 ∨ cl6.slots.size ≤ ((1 : Int32)).toNatClampNeg) := inb_of aS6 ⟨by decide, by decide⟩
  have hat6 : cl6.slots[((1 : Int32)).toNatClampNeg]? = some (.ref ra) := aH6.at hin6 rfl
  refine Goes.pre (X5.aaload hx (j := (1 : Int32)) (v := (.ref ra)) (by rw [e5]; exact Ar6.1) (State.isArrayOf_alike hZ.alike Ar6.2.1) rfl Ar6.2.2 hin6 hat6 (g := (mkF m 21 #[.val (.int pp1), .val .null, .val (.ref r_1), .val (.int (2 : Int32)), .val (.int (1 : Int32)), .val (.ref ka)] [(.int (1 : Int32)), (.ref r_1)])) rfl rfl (hb hby d1_21)) ?_
  show Goes p e below s _ _ _ (T5.setTop (mkF m 22 #[.val (.int pp1), .val .null, .val (.ref r_1), .val (.int (2 : Int32)), .val (.int (1 : Int32)), .val (.ref ka)] [(.ref ra)]))
  refine Goes.pre (fun t kt => XS.astore X5.here hx rfl (hb hby d1_22) rfl rfl (l' := #[.val (.int pp1), .val .null, .val (.ref r_1), .val (.int (2 : Int32)), .val (.int (1 : Int32)), .val (.ref ra)]) rfl kt) ?_
  show Goes p e below s _ _ _ (T5.setTop (mkF m 24 #[.val (.int pp1), .val .null, .val (.ref r_1), .val (.int (2 : Int32)), .val (.int (1 : Int32)), .val (.ref ra)] []))
  refine Goes.pre (fun t kt => XS.aload X5.here hx rfl (hb hby d1_24) rfl rfl kt) ?_
  show Goes p e below s _ _ _ (T5.setTop (mkF m 26 #[.val (.int pp1), .val .null, .val (.ref r_1), .val (.int (2 : Int32)), .val (.int (1 : Int32)), .val (.ref ra)] [(.ref ra)]))
  have fc7 : Fld Z h1 ra "com/example/quantail/quantail/SketchFamily" "code" "I" (.int (2 : Int32)) := (pf_F_ra_com_example_quantail_quantail_SketchFamily_code.keep Kq1 nin0)
  obtain ⟨T8, X8, e8, st8⟩ := getF X5 hx hZ hown (host := "") (Or.inl (hw _ (List.mem_of_getElem? (i := 21) rfl))) Via.refl e5 fc7 (g := (mkF m 26 #[.val (.int pp1), .val .null, .val (.ref r_1), .val (.int (2 : Int32)), .val (.int (1 : Int32)), .val (.ref ra)] [(.ref ra)])) rfl rfl (hb hby d1_26)
  refine Goes.pre st8 ?_
  show Goes p e below s _ _ _ (T8.setTop (mkF m 29 #[.val (.int pp1), .val .null, .val (.ref r_1), .val (.int (2 : Int32)), .val (.int (1 : Int32)), .val (.ref ra)] [(.int (2 : Int32))]))
  refine Goes.pre (fun t kt => XS.iloadN X8.here hx rfl (hb hby d1_29) rfl kt) ?_
  show Goes p e below s _ _ _ (T8.setTop (mkF m 30 #[.val (.int pp1), .val .null, .val (.ref r_1), .val (.int (2 : Int32)), .val (.int (1 : Int32)), .val (.ref ra)] [(.int pp1), (.int (2 : Int32))]))
  refine Goes.pre (fun t kt => XS.icmpNo X8.here hx rfl (hb hby d1_30) rfl (Jvm.Free.XT.ii_ne_f (hp0.symm)) kt) ?_
  show Goes p e below s _ _ _ (T8.setTop (mkF m 33 #[.val (.int pp1), .val .null, .val (.ref r_1), .val (.int (2 : Int32)), .val (.int (1 : Int32)), .val (.ref ra)] []))
  refine Goes.pre (fun t kt => XS.aload X8.here hx rfl (hb hby d1_33) rfl rfl kt) ?_
  show Goes p e below s _ _ _ (T8.setTop (mkF m 35 #[.val (.int pp1), .val .null, .val (.ref r_1), .val (.int (2 : Int32)), .val (.int (1 : Int32)), .val (.ref ra)] [(.ref ra)]))
  refine Goes.pre (fun t kt => XS.astoreN X8.here hx rfl (hb hby d1_35) rfl rfl (l' := #[.val (.int pp1), .val (.ref ra), .val (.ref r_1), .val (.int (2 : Int32)), .val (.int (1 : Int32)), .val (.ref ra)]) rfl kt) ?_
  show Goes p e below s _ _ _ (T8.setTop (mkF m 36 #[.val (.int pp1), .val (.ref ra), .val (.ref r_1), .val (.int (2 : Int32)), .val (.int (1 : Int32)), .val (.ref ra)] []))
  refine Goes.pre (fun t kt => XS.iinc X8.here hx rfl (hb hby d1_36) rfl (l' := #[.val (.int pp1), .val (.ref ra), .val (.ref r_1), .val (.int (2 : Int32)), .val (.int (2 : Int32)), .val (.ref ra)]) rfl kt) ?_
  show Goes p e below s _ _ _ (T8.setTop (mkF m 39 #[.val (.int pp1), .val (.ref ra), .val (.ref r_1), .val (.int (2 : Int32)), .val (.int (2 : Int32)), .val (.ref ra)] []))
  refine Goes.pre (fun t kt => XS.goto X8.here hx rfl (pc0 := 39) (pc' := 12) rfl (hb hby d1_39) (by decide) (by decide) kt) ?_
  show Goes p e below s _ _ _ (T8.setTop (mkF m 12 #[.val (.int pp1), .val (.ref ra), .val (.ref r_1), .val (.int (2 : Int32)), .val (.int (2 : Int32)), .val (.ref ra)] []))
  refine Goes.pre (fun t kt => XS.iload X8.here hx rfl (hb hby d1_12) rfl kt) ?_
  show Goes p e below s _ _ _ (T8.setTop (mkF m 14 #[.val (.int pp1), .val (.ref ra), .val (.ref r_1), .val (.int (2 : Int32)), .val (.int (2 : Int32)), .val (.ref ra)] [(.int (2 : Int32))]))
  refine Goes.pre (fun t kt => XS.iloadN X8.here hx rfl (hb hby d1_14) rfl kt) ?_
  show Goes p e below s _ _ _ (T8.setTop (mkF m 15 #[.val (.int pp1), .val (.ref ra), .val (.ref r_1), .val (.int (2 : Int32)), .val (.int (2 : Int32)), .val (.ref ra)] [(.int (2 : Int32)), (.int (2 : Int32))]))
  refine Goes.pre (fun t kt => XS.icmpYes X8.here hx rfl (pc0 := 15) (pc' := 42) rfl (hb hby d1_15) rfl (Jvm.Free.XT.ii_ge_t ((by decide))) (by decide) (by decide) kt) ?_
  show Goes p e below s _ _ _ (T8.setTop (mkF m 42 #[.val (.int pp1), .val (.ref ra), .val (.ref r_1), .val (.int (2 : Int32)), .val (.int (2 : Int32)), .val (.ref ra)] []))
  refine Goes.pre (fun t kt => XS.aloadN X8.here hx rfl (hb hby d1_42) rfl rfl kt) ?_
  show Goes p e below s _ _ _ (T8.setTop (mkF m 43 #[.val (.int pp1), .val (.ref ra), .val (.ref r_1), .val (.int (2 : Int32)), .val (.int (2 : Int32)), .val (.ref ra)] [(.ref ra)]))
  refine Goes.ret X8 (some (.ref ra)) (fun h => by rw [Bd.returns] at h; cases h) (BodyLoose.notSynchronized Bd) (by decide) (by decide) (fun fs hr => retOut X8 hx (t := (.object "com/example/quantail/quantail/SketchFamily")) Bd.returns rfl (Or.inr (Or.inr (Or.inr (Or.inr ⟨rfl, rfl, rfl⟩)))) (hb hby d1_43) hr) ?_
  show Q_rm1_2 Z pp1 va kv ka ra h0 n0 _ T8.heap _
  rw [e8]
  exact ⟨rfl, N1, K1⟩
def Q_rm1_n (Z : State) (pp1 : Int32) (va : Addr) (kv : ClassId) (ka : Addr) (ra : Addr) (h0 : Heap) (n0 : Nat) (v : Option Value) (h : Heap) (L : List Loc) : Prop := v = some .null ∧ Fr n0 L ∧ Keep h0 h []
theorem ef_rm1_n (m : MethodId) (pp1 : Int32) : entryFrame m #[(.int pp1)] 6 = mkF m 0 #[.val (.int pp1), .unset, .unset, .unset, .unset, .unset] [] := by first | (simp [entryFrame, mkF, argsToLocals, Value.category]; done) | rfl
set_option maxRecDepth 65536 in
set_option maxHeartbeats 40000000 in
theorem rm1_n (l : Launch) (Z : State) (a0 : Array Value) (hw : ∀ d ∈ tables_1, d.before a0 Z = true) (ws : List Jvm.Cond) (pp1 : Int32) (va : Addr) (kv : ClassId) (ka : Addr) (ra : Addr) (h0 : Heap) (n0 : Nat) (Z0 : n0 ≤ h0.size) (pf_S_com_example_quantail_quantail_SketchFamily__VALUES : Sta Z Z.heap "com/example/quantail/quantail/SketchFamily" "$VALUES" "[Lcom/example/quantail/quantail/SketchFamily;" (.ref va)) (pf_V_va : Arv Z h0 va kv (.object "com/example/quantail/quantail/SketchFamily") (2 : Int32) [(.ref ka), (.ref ra)] .null) (pf_E_va : Exa Z h0 va "[Lcom/example/quantail/quantail/SketchFamily;") (pf_F_ka_com_example_quantail_quantail_SketchFamily_code : Fld Z h0 ka "com/example/quantail/quantail/SketchFamily" "code" "I" (.int (1 : Int32))) (pf_F_ra_com_example_quantail_quantail_SketchFamily_code : Fld Z h0 ra "com/example/quantail/quantail/SketchFamily" "code" "I" (.int (2 : Int32))) (hp0 : ¬ pp1 = (1 : Int32)) (hp1 : ¬ pp1 = (2 : Int32)) (X00 : Old Z n0 h0) :
    MetFree l (⟨"com/example/quantail/quantail/SketchFamily", "ofCode", "(I)Lcom/example/quantail/quantail/SketchFamily;"⟩ : MethodName) (head1 (Jvm.Cond.code (⟨"com/example/quantail/quantail/SketchFamily", "ofCode", "(I)Lcom/example/quantail/quantail/SketchFamily;"⟩ : MethodName) prog_14_method_6_code 6 (some (.object "com/example/quantail/quantail/SketchFamily")) :: ws) ({ frames := 2, cells := 1, slots := 2, locals := 25 } : Room)) (fun a U => a = #[(.int pp1)] ∧ Z.Warmed39 U.vm ∧ U.heap = h0) (fun _ _ _ _ _ => True) (fun _ U o U' => ∃ v L, o = .returned v ∧ Q_rm1_n Z pp1 va kv ka ra h0 n0 v U'.heap L ∧ FrameEnd U o U' L ({ frames := 2, cells := 1, slots := 2, locals := 25 } : Room).cells ({ frames := 2, cells := 1, slots := 2, locals := 25 } : Room).slots) := by
  refine MetFree.of_bodySF (plainFor_of_name pn_0) hisR ?_
  intro p e s m args below meth c s₁ Bd hml0 hP hK
  obtain ⟨rfl, hZ, hh⟩ := hP
  have hx := Bd.exec
  have hby := Bd.bytes
  have hml : c.maxLocals = 6 := hml0
  have hown : s.vm.findClass "com/example/quantail/quantail/SketchFamily" = some m.cls := findClass_of_methodNamed Bd.named
  have hnm := (name_of_methodNamed Bd.named Bd.method).1
  have X0 : Stand p l e ({ frames := 2, cells := 1, slots := 2, locals := 25 } : Room) s m #[(.int pp1)] below meth c s₁ [] 0 0 := Stand.of_body Bd
  have e0 : s₁.heap = h0 := by rw [← hh, Bd.state]; rfl
  have N0 := Fr.nil n0
  have K0 := Keep.refl h0 []
  show Goes p e below s (Q_rm1_n Z pp1 va kv ka ra h0 n0) ({ frames := 2, cells := 1, slots := 2, locals := 25 } : Room).cells ({ frames := 2, cells := 1, slots := 2, locals := 25 } : Room).slots (s₁.setTop (entryFrame m #[(.int pp1)] 6))
  refine Goes.pre (fun t kt => castTop (ef_rm1_n m pp1) kt) ?_
  show Goes p e below s _ _ _ (s₁.setTop (mkF m 0 #[.val (.int pp1), .unset, .unset, .unset, .unset, .unset] []))
  refine Goes.pre (fun t kt => XS.aconstNull X0.here hx rfl (hb hby d1_0) kt) ?_
  show Goes p e below s _ _ _ (s₁.setTop (mkF m 1 #[.val (.int pp1), .unset, .unset, .unset, .unset, .unset] [.null]))
  refine Goes.pre (fun t kt => XS.astoreN X0.here hx rfl (hb hby d1_1) rfl rfl (l' := #[.val (.int pp1), .val .null, .unset, .unset, .unset, .unset]) rfl kt) ?_
  show Goes p e below s _ _ _ (s₁.setTop (mkF m 2 #[.val (.int pp1), .val .null, .unset, .unset, .unset, .unset] []))
  obtain ⟨_, _, ⟨T1, L1, k1, n1⟩, -, X1, ⟨Lc1, hQ1, l1, y1, z1⟩, st1⟩ := Jvm.LawKit.callS X0 hx (y := (⟨"com/example/quantail/quantail/SketchFamily", "values", "()[Lcom/example/quantail/quantail/SketchFamily;"⟩ : MethodName)) hown (mvT hZ (hw _ (List.mem_of_getElem? (i := 4) rfl))) (mvT hZ (hw _ (List.mem_of_getElem? (i := 5) rfl))) (mvT hZ (hw _ (List.mem_of_getElem? (i := 2) rfl))) (mvT hZ (hw _ (List.mem_of_getElem? (i := 6) rfl))) (by decide) (backOf (W := 0) (rm2 l Z a0 hw [] va kv ka ra h0 n0 Z0 pf_S_com_example_quantail_quantail_SketchFamily__VALUES pf_V_va pf_E_va X00) hZ (hw _ (List.mem_of_getElem? (i := 6) rfl)) (hw _ (List.mem_of_getElem? (i := 2) rfl)) (by decide) (by decide)) (g := (mkF m 2 #[.val (.int pp1), .val .null, .unset, .unset, .unset, .unset] [])) rfl (by rw [hml]; rfl) (argsL := []) (rest := []) (lenOf pd_1 rfl) rfl (by show 2 * 0 + _ ≤ _; exact Nat.le_of_eq rfl) (hb hby d1_2) (fun _ _ => ⟨rfl, e0, (by decide : 0 + 1 ≤ _), (by decide : 0 + 2 ≤ _)⟩)
  dsimp only [Pt.U, Pt.locs, Pt.cells, Pt.slots] at X1 l1 y1 z1 st1 hQ1
  subst l1 y1 z1
  obtain ⟨r_1, rfl, Nq1, Kq1, pq1_0, pq1_1, pq1_2⟩ := hQ1
  refine Goes.pre st1 ?_
  have N1 := Fr.app N0 Nq1
  obtain ⟨h1, e1⟩ : ∃ z, T1.heap = z := ⟨_, rfl⟩
  rw [e1] at Kq1 pq1_2
  have ltva_1_r_1 : va < r_1 := Nat.lt_of_lt_of_le pf_E_va.lt pq1_0
  have szq1_r_1 : h0.size ≤ r_1 := Nat.le_trans K0.1 pq1_0
  have Z1 : n0 ≤ h1.size := Nat.le_trans Z0 Kq1.1
  have Od1 := X00.keep Kq1 all0
  have K1 := K0.trans Kq1 all0
  show Goes p e below s _ _ _ (T1.setTop (mkF m 5 #[.val (.int pp1), .val .null, .unset, .unset, .unset, .unset] [(.ref r_1)]))
  refine Goes.pre (fun t kt => XS.astoreN X1.here hx rfl (hb hby d1_5) rfl rfl (l' := #[.val (.int pp1), .val .null, .val (.ref r_1), .unset, .unset, .unset]) rfl kt) ?_
  show Goes p e below s _ _ _ (T1.setTop (mkF m 6 #[.val (.int pp1), .val .null, .val (.ref r_1), .unset, .unset, .unset] []))
  refine Goes.pre (fun t kt => XS.aloadN X1.here hx rfl (hb hby d1_6) rfl rfl kt) ?_
  show Goes p e below s _ _ _ (T1.setTop (mkF m 7 #[.val (.int pp1), .val .null, .val (.ref r_1), .unset, .unset, .unset] [(.ref r_1)]))
  obtain ⟨cl2, Ar2, aq2, aS2, aN2, aH2, aG2⟩ := pq1_2
  have V2 : Arv Z h1 r_1 kv (.object "com/example/quantail/quantail/SketchFamily") (2 : Int32) [(.ref ka), (.ref ra)] .null := ⟨cl2, Ar2, aq2, aS2, aN2, aH2, aG2⟩
  refine Goes.pre (X1.arraylength hx (by rw [e1]; exact Ar2.1) (State.isArrayOf_alike hZ.alike Ar2.2.1) (g := (mkF m 7 #[.val (.int pp1), .val .null, .val (.ref r_1), .unset, .unset, .unset] [(.ref r_1)])) rfl rfl (hb hby d1_7)) ?_
  rw [len_of aS2 aN2]
  show Goes p e below s _ _ _ (T1.setTop (mkF m 8 #[.val (.int pp1), .val .null, .val (.ref r_1), .unset, .unset, .unset] [(.int (2 : Int32))]))
  refine Goes.pre (fun t kt => XS.istoreN X1.here hx rfl (hb hby d1_8) rfl (l' := #[.val (.int pp1), .val .null, .val (.ref r_1), .val (.int (2 : Int32)), .unset, .unset]) rfl kt) ?_
  show Goes p e below s _ _ _ (T1.setTop (mkF m 9 #[.val (.int pp1), .val .null, .val (.ref r_1), .val (.int (2 : Int32)), .unset, .unset] []))
  refine Goes.pre (fun t kt => XS.iconst X1.here hx rfl (hb hby d1_9) kt) ?_
  show Goes p e below s _ _ _ (T1.setTop (mkF m 10 #[.val (.int pp1), .val .null, .val (.ref r_1), .val (.int (2 : Int32)), .unset, .unset] [(.int (0 : Int32))]))
  refine Goes.pre (fun t kt => XS.istore X1.here hx rfl (hb hby d1_10) rfl (l' := #[.val (.int pp1), .val .null, .val (.ref r_1), .val (.int (2 : Int32)), .val (.int (0 : Int32)), .unset]) rfl kt) ?_
  show Goes p e below s _ _ _ (T1.setTop (mkF m 12 #[.val (.int pp1), .val .null, .val (.ref r_1), .val (.int (2 : Int32)), .val (.int (0 : Int32)), .unset] []))
  refine Goes.pre (fun t kt => XS.iload X1.here hx rfl (hb hby d1_12) rfl kt) ?_
  show Goes p e below s _ _ _ (T1.setTop (mkF m 14 #[.val (.int pp1), .val .null, .val (.ref r_1), .val (.int (2 : Int32)), .val (.int (0 : Int32)), .unset] [(.int (0 : Int32))]))
  refine Goes.pre (fun t kt => XS.iloadN X1.here hx rfl (hb hby d1_14) rfl kt) ?_
  show Goes p e below s _ _ _ (T1.setTop (mkF m 15 #[.val (.int pp1), .val .null, .val (.ref r_1), .val (.int (2 : Int32)), .val (.int (0 : Int32)), .unset] [(.int (2 : Int32)), (.int (0 : Int32))]))
  refine Goes.pre (fun t kt => XS.icmpNo X1.here hx rfl (hb hby d1_15) rfl (Jvm.Free.XT.ii_ge_f ((by decide))) kt) ?_
  show Goes p e below s _ _ _ (T1.setTop (mkF m 18 #[.val (.int pp1), .val .null, .val (.ref r_1), .val (.int (2 : Int32)), .val (.int (0 : Int32)), .unset] []))
  refine Goes.pre (fun t kt => XS.aloadN X1.here hx rfl (hb hby d1_18) rfl rfl kt) ?_
  show Goes p e below s _ _ _ (T1.setTop (mkF m 19 #[.val (.int pp1), .val .null, .val (.ref r_1), .val (.int (2 : Int32)), .val (.int (0 : Int32)), .unset] [(.ref r_1)]))
  refine Goes.pre (fun t kt => XS.iload X1.here hx rfl (hb hby d1_19) rfl kt) ?_
  show Goes p e below s _ _ _ (T1.setTop (mkF m 21 #[.val (.int pp1), .val .null, .val (.ref r_1), .val (.int (2 : Int32)), .val (.int (0 : Int32)), .unset] [(.int (0 : Int32)), (.ref r_1)]))
  obtain ⟨cl3, Ar3, aq3, aS3, aN3, aH3, aG3⟩ := V2
  have V3 : Arv Z h1 r_1 kv (.object "com/example/quantail/quantail/SketchFamily") (2 : Int32) [(.ref ka), (.ref ra)] .null := ⟨cl3, Ar3, aq3, aS3, aN3, aH3, aG3⟩
  have hin3 : ¬ ((0 : Int32) < 0 ∨ cl3.slots.size ≤ ((0 : Int32)).toNatClampNeg) := inb_of aS3 ⟨by decide, by decide⟩
  have hat3 : cl3.slots[((0 : Int32)).toNatClampNeg]? = some (.ref ka) := aH3.at hin3 rfl
  refine Goes.pre (X1.aaload hx (j := (0 : Int32)) (v := (.ref ka)) (by rw [e1]; exact Ar3.1) (State.isArrayOf_alike hZ.alike Ar3.2.1) rfl Ar3.2.2 hin3 hat3 (g := (mkF m 21 #[.val (.int pp1), .val .null, .val (.ref r_1), .val (.int (2 : Int32)), .val (.int (0 : Int32)), .unset] [(.int (0 : Int32)), (.ref r_1)])) rfl rfl (hb hby d1_21)) ?_
  show Goes p e below s _ _ _ (T1.setTop (mkF m 22 #[.val (.int pp1), .val .null, .val (.ref r_1), .val (.int (2 : Int32)), .val (.int (0 : Int32)), .unset] [(.ref ka)]))
  refine Goes.pre (fun t kt => XS.astore X1.here hx rfl (hb hby d1_22) rfl rfl (l' := #[.val (.int pp1), .val .null, .val (.ref r_1), .val (.int (2 : Int32)), .val (.int (0 : Int32)), .val (.ref ka)]) rfl kt) ?_
  show Goes p e below s _ _ _ (T1.setTop (mkF m 24 #[.val (.int pp1), .val .null, .val (.ref r_1), .val (.int (2 : Int32)), .val (.int (0 : Int32)), .val (.ref ka)] []))
  refine Goes.pre (fun t kt => XS.aload X1.here hx rfl (hb hby d1_24) rfl rfl kt) ?_
  show Goes p e below s _ _ _ (T1.setTop (mkF m 26 #[.val (.int pp1), .val .null, .val (.ref r_1), .val (.int (2 : Int32)), .val (.int (0 : Int32)), .val (.ref ka)] [(.ref ka)]))
  have fc4 : Fld Z h1 ka "com/example/quantail/quantail/SketchFamily" "code" "I" (.int (1 : Int32)) := (pf_F_ka_com_example_quantail_quantail_SketchFamily_code.keep Kq1 nin0)
  obtain ⟨T5, X5, e5, st5⟩ := getF X1 hx hZ hown (host := "") (Or.inl (hw _ (List.mem_of_getElem? (i := 21) rfl))) Via.refl e1 fc4 (g := (mkF m 26 #[.val (.int pp1), .val .null, .val (.ref r_1), .val (.int (2 : Int32)), .val (.int (0 : Int32)), .val (.ref ka)] [(.ref ka)])) rfl rfl (hb hby d1_26)
  refine Goes.pre st5 ?_
  show Goes p e below s _ _ _ (T5.setTop (mkF m 29 #[.val (.int pp1), .val .null, .val (.ref r_1), .val (.int (2 : Int32)), .val (.int (0 : Int32)), .val (.ref ka)] [(.int (1 : Int32))]))
  refine Goes.pre (fun t kt => XS.iloadN X5.here hx rfl (hb hby d1_29) rfl kt) ?_
  show Goes p e below s _ _ _ (T5.setTop (mkF m 30 #[.val (.int pp1), .val .null, .val (.ref r_1), .val (.int (2 : Int32)), .val (.int (0 : Int32)), .val (.ref ka)] [(.int pp1), (.int (1 : Int32))]))
  refine Goes.pre (fun t kt => XS.icmpYes X5.here hx rfl (pc0 := 30) (pc' := 36) rfl (hb hby d1_30) rfl (Jvm.Free.XT.ii_ne_t ((fun q => hp0 q.symm))) (by decide) (by decide) kt) ?_
  show Goes p e below s _ _ _ (T5.setTop (mkF m 36 #[.val (.int pp1), .val .null, .val (.ref r_1), .val (.int (2 : Int32)), .val (.int (0 : Int32)), .val (.ref ka)] []))
  refine Goes.pre (fun t kt => XS.iinc X5.here hx rfl (hb hby d1_36) rfl (l' := #[.val (.int pp1), .val .null, .val (.ref r_1), .val (.int (2 : Int32)), .val (.int (1 : Int32)), .val (.ref ka)]) rfl kt) ?_
  show Goes p e below s _ _ _ (T5.setTop (mkF m 39 #[.val (.int pp1), .val .null, .val (.ref r_1), .val (.int (2 : Int32)), .val (.int (1 : Int32)), .val (.ref ka)] []))
  refine Goes.pre (fun t kt => XS.goto X5.here hx rfl (pc0 := 39) (pc' := 12) rfl (hb hby d1_39) (by decide) (by decide) kt) ?_
  show Goes p e below s _ _ _ (T5.setTop (mkF m 12 #[.val (.int pp1), .val .null, .val (.ref r_1), .val (.int (2 : Int32)), .val (.int (1 : Int32)), .val (.ref ka)] []))
  refine Goes.pre (fun t kt => XS.iload X5.here hx rfl (hb hby d1_12) rfl kt) ?_
  show Goes p e below s _ _ _ (T5.setTop (mkF m 14 #[.val (.int pp1), .val .null, .val (.ref r_1), .val (.int (2 : Int32)), .val (.int (1 : Int32)), .val (.ref ka)] [(.int (1 : Int32))]))
  refine Goes.pre (fun t kt => XS.iloadN X5.here hx rfl (hb hby d1_14) rfl kt) ?_
  show Goes p e below s _ _ _ (T5.setTop (mkF m 15 #[.val (.int pp1), .val .null, .val (.ref r_1), .val (.int (2 : Int32)), .val (.int (1 : Int32)), .val (.ref ka)] [(.int (2 : Int32)), (.int (1 : Int32))]))
  refine Goes.pre (fun t kt => XS.icmpNo X5.here hx rfl (hb hby d1_15) rfl (Jvm.Free.XT.ii_ge_f ((by decide))) kt) ?_
  show Goes p e below s _ _ _ (T5.setTop (mkF m 18 #[.val (.int pp1), .val .null, .val (.ref r_1), .val (.int (2 : Int32)), .val (.int (1 : Int32)), .val (.ref ka)] []))
  refine Goes.pre (fun t kt => XS.aloadN X5.here hx rfl (hb hby d1_18) rfl rfl kt) ?_
  show Goes p e below s _ _ _ (T5.setTop (mkF m 19 #[.val (.int pp1), .val .null, .val (.ref r_1), .val (.int (2 : Int32)), .val (.int (1 : Int32)), .val (.ref ka)] [(.ref r_1)]))
  refine Goes.pre (fun t kt => XS.iload X5.here hx rfl (hb hby d1_19) rfl kt) ?_
  show Goes p e below s _ _ _ (T5.setTop (mkF m 21 #[.val (.int pp1), .val .null, .val (.ref r_1), .val (.int (2 : Int32)), .val (.int (1 : Int32)), .val (.ref ka)] [(.int (1 : Int32)), (.ref r_1)]))
  obtain ⟨cl6, Ar6, aq6, aS6, aN6, aH6, aG6⟩ := V3
  have V6 : Arv Z h1 r_1 kv (.object "com/example/quantail/quantail/SketchFamily") (2 : Int32) [(.ref ka), (.ref ra)] .null := ⟨cl6, Ar6, aq6, aS6, aN6, aH6, aG6⟩
  have hin6 : ¬ ((1 : Int32) < 0 ∨ cl6.slots.size ≤ ((1 : Int32)).toNatClampNeg) := inb_of aS6 ⟨by decide, by decide⟩
  have hat6 : cl6.slots[((1 : Int32)).toNatClampNeg]? = some (.ref ra) := aH6.at hin6 rfl
  refine Goes.pre (X5.aaload hx (j := (1 : Int32)) (v := (.ref ra)) (by rw [e5]; exact Ar6.1) (State.isArrayOf_alike hZ.alike Ar6.2.1) rfl Ar6.2.2 hin6 hat6 (g := (mkF m 21 #[.val (.int pp1), .val .null, .val (.ref r_1), .val (.int (2 : Int32)), .val (.int (1 : Int32)), .val (.ref ka)] [(.int (1 : Int32)), (.ref r_1)])) rfl rfl (hb hby d1_21)) ?_
  show Goes p e below s _ _ _ (T5.setTop (mkF m 22 #[.val (.int pp1), .val .null, .val (.ref r_1), .val (.int (2 : Int32)), .val (.int (1 : Int32)), .val (.ref ka)] [(.ref ra)]))
  refine Goes.pre (fun t kt => XS.astore X5.here hx rfl (hb hby d1_22) rfl rfl (l' := #[.val (.int pp1), .val .null, .val (.ref r_1), .val (.int (2 : Int32)), .val (.int (1 : Int32)), .val (.ref ra)]) rfl kt) ?_
  show Goes p e below s _ _ _ (T5.setTop (mkF m 24 #[.val (.int pp1), .val .null, .val (.ref r_1), .val (.int (2 : Int32)), .val (.int (1 : Int32)), .val (.ref ra)] []))
  refine Goes.pre (fun t kt => XS.aload X5.here hx rfl (hb hby d1_24) rfl rfl kt) ?_
  show Goes p e below s _ _ _ (T5.setTop (mkF m 26 #[.val (.int pp1), .val .null, .val (.ref r_1), .val (.int (2 : Int32)), .val (.int (1 : Int32)), .val (.ref ra)] [(.ref ra)]))
  have fc7 : Fld Z h1 ra "com/example/quantail/quantail/SketchFamily" "code" "I" (.int (2 : Int32)) := (pf_F_ra_com_example_quantail_quantail_SketchFamily_code.keep Kq1 nin0)
  obtain ⟨T8, X8, e8, st8⟩ := getF X5 hx hZ hown (host := "") (Or.inl (hw _ (List.mem_of_getElem? (i := 21) rfl))) Via.refl e5 fc7 (g := (mkF m 26 #[.val (.int pp1), .val .null, .val (.ref r_1), .val (.int (2 : Int32)), .val (.int (1 : Int32)), .val (.ref ra)] [(.ref ra)])) rfl rfl (hb hby d1_26)
  refine Goes.pre st8 ?_
  show Goes p e below s _ _ _ (T8.setTop (mkF m 29 #[.val (.int pp1), .val .null, .val (.ref r_1), .val (.int (2 : Int32)), .val (.int (1 : Int32)), .val (.ref ra)] [(.int (2 : Int32))]))
  refine Goes.pre (fun t kt => XS.iloadN X8.here hx rfl (hb hby d1_29) rfl kt) ?_
  show Goes p e below s _ _ _ (T8.setTop (mkF m 30 #[.val (.int pp1), .val .null, .val (.ref r_1), .val (.int (2 : Int32)), .val (.int (1 : Int32)), .val (.ref ra)] [(.int pp1), (.int (2 : Int32))]))
  refine Goes.pre (fun t kt => XS.icmpYes X8.here hx rfl (pc0 := 30) (pc' := 36) rfl (hb hby d1_30) rfl (Jvm.Free.XT.ii_ne_t ((fun q => hp1 q.symm))) (by decide) (by decide) kt) ?_
  show Goes p e below s _ _ _ (T8.setTop (mkF m 36 #[.val (.int pp1), .val .null, .val (.ref r_1), .val (.int (2 : Int32)), .val (.int (1 : Int32)), .val (.ref ra)] []))
  refine Goes.pre (fun t kt => XS.iinc X8.here hx rfl (hb hby d1_36) rfl (l' := #[.val (.int pp1), .val .null, .val (.ref r_1), .val (.int (2 : Int32)), .val (.int (2 : Int32)), .val (.ref ra)]) rfl kt) ?_
  show Goes p e below s _ _ _ (T8.setTop (mkF m 39 #[.val (.int pp1), .val .null, .val (.ref r_1), .val (.int (2 : Int32)), .val (.int (2 : Int32)), .val (.ref ra)] []))
  refine Goes.pre (fun t kt => XS.goto X8.here hx rfl (pc0 := 39) (pc' := 12) rfl (hb hby d1_39) (by decide) (by decide) kt) ?_
  show Goes p e below s _ _ _ (T8.setTop (mkF m 12 #[.val (.int pp1), .val .null, .val (.ref r_1), .val (.int (2 : Int32)), .val (.int (2 : Int32)), .val (.ref ra)] []))
  refine Goes.pre (fun t kt => XS.iload X8.here hx rfl (hb hby d1_12) rfl kt) ?_
  show Goes p e below s _ _ _ (T8.setTop (mkF m 14 #[.val (.int pp1), .val .null, .val (.ref r_1), .val (.int (2 : Int32)), .val (.int (2 : Int32)), .val (.ref ra)] [(.int (2 : Int32))]))
  refine Goes.pre (fun t kt => XS.iloadN X8.here hx rfl (hb hby d1_14) rfl kt) ?_
  show Goes p e below s _ _ _ (T8.setTop (mkF m 15 #[.val (.int pp1), .val .null, .val (.ref r_1), .val (.int (2 : Int32)), .val (.int (2 : Int32)), .val (.ref ra)] [(.int (2 : Int32)), (.int (2 : Int32))]))
  refine Goes.pre (fun t kt => XS.icmpYes X8.here hx rfl (pc0 := 15) (pc' := 42) rfl (hb hby d1_15) rfl (Jvm.Free.XT.ii_ge_t ((by decide))) (by decide) (by decide) kt) ?_
  show Goes p e below s _ _ _ (T8.setTop (mkF m 42 #[.val (.int pp1), .val .null, .val (.ref r_1), .val (.int (2 : Int32)), .val (.int (2 : Int32)), .val (.ref ra)] []))
  refine Goes.pre (fun t kt => XS.aloadN X8.here hx rfl (hb hby d1_42) rfl rfl kt) ?_
  show Goes p e below s _ _ _ (T8.setTop (mkF m 43 #[.val (.int pp1), .val .null, .val (.ref r_1), .val (.int (2 : Int32)), .val (.int (2 : Int32)), .val (.ref ra)] [.null]))
  refine Goes.ret X8 (some .null) (fun h => by rw [Bd.returns] at h; cases h) (BodyLoose.notSynchronized Bd) (by decide) (by decide) (fun fs hr => retOut X8 hx (t := (.object "com/example/quantail/quantail/SketchFamily")) Bd.returns rfl (Or.inr (Or.inr (Or.inr (Or.inr ⟨rfl, rfl, rfl⟩)))) (hb hby d1_43) hr) ?_
  show Q_rm1_n Z pp1 va kv ka ra h0 n0 _ T8.heap _
  rw [e8]
  exact ⟨rfl, N1, K1⟩
theorem d3_0 : decode prog_14_method_4_code 0 = .ok (.aload_n 0, 1) := by decide +kernel
theorem d3_1 : decode prog_14_method_4_code 1 = .ok (.getfield 29, 3) := by decide +kernel
theorem d3_4 : decode prog_14_method_4_code 4 = .ok (.ireturn, 1) := by decide +kernel
def Q_rm3 (Z : State) (a1 : Addr) (w : Int32) (h0 : Heap) (n0 : Nat) (v : Option Value) (h : Heap) (L : List Loc) : Prop := v = some (.int w) ∧ Fr n0 L ∧ h = h0
theorem ef_rm3 (m : MethodId) (a1 : Addr) : entryFrame m #[(.ref a1)] 1 = mkF m 0 #[.val (.ref a1)] [] := by first | (simp [entryFrame, mkF, argsToLocals, Value.category]; done) | rfl
set_option maxRecDepth 65536 in
set_option maxHeartbeats 40000000 in
theorem rm3 (l : Launch) (Z : State) (a0 : Array Value) (hw : ∀ d ∈ tables_1, d.before a0 Z = true) (ws : List Jvm.Cond) (a1 : Addr) (w : Int32) (h0 : Heap) (n0 : Nat) (Z0 : n0 ≤ h0.size) (pf_F_a1_com_example_quantail_quantail_SketchFamily_code : Fld Z h0 a1 "com/example/quantail/quantail/SketchFamily" "code" "I" (.int w)) :
    MetFree l (⟨"com/example/quantail/quantail/SketchFamily", "code", "()I"⟩ : MethodName) (head1 (Jvm.Cond.code (⟨"com/example/quantail/quantail/SketchFamily", "code", "()I"⟩ : MethodName) prog_14_method_4_code 1 (some .int) :: ws) ({ frames := 0, cells := 0, slots := 0, locals := 0 } : Room)) (fun a U => a = #[(.ref a1)] ∧ Z.Warmed39 U.vm ∧ U.heap = h0) (fun _ _ _ _ _ => True) (fun _ U o U' => ∃ v L, o = .returned v ∧ Q_rm3 Z a1 w h0 n0 v U'.heap L ∧ FrameEnd U o U' L ({ frames := 0, cells := 0, slots := 0, locals := 0 } : Room).cells ({ frames := 0, cells := 0, slots := 0, locals := 0 } : Room).slots) := by
  refine MetFree.of_bodySF (plainFor_of_name pn_0) hisR ?_
  intro p e s m args below meth c s₁ Bd hml0 hP hK
  obtain ⟨rfl, hZ, hh⟩ := hP
  have hx := Bd.exec
  have hby := Bd.bytes
  have hml : c.maxLocals = 1 := hml0
  have hown : s.vm.findClass "com/example/quantail/quantail/SketchFamily" = some m.cls := findClass_of_methodNamed Bd.named
  have hnm := (name_of_methodNamed Bd.named Bd.method).1
  have X0 : Stand p l e ({ frames := 0, cells := 0, slots := 0, locals := 0 } : Room) s m #[(.ref a1)] below meth c s₁ [] 0 0 := Stand.of_body Bd
  have e0 : s₁.heap = h0 := by rw [← hh, Bd.state]; rfl
  have N0 := Fr.nil n0
  show Goes p e below s (Q_rm3 Z a1 w h0 n0) ({ frames := 0, cells := 0, slots := 0, locals := 0 } : Room).cells ({ frames := 0, cells := 0, slots := 0, locals := 0 } : Room).slots (s₁.setTop (entryFrame m #[(.ref a1)] 1))
  refine Goes.pre (fun t kt => castTop (ef_rm3 m a1) kt) ?_
  show Goes p e below s _ _ _ (s₁.setTop (mkF m 0 #[.val (.ref a1)] []))
  refine Goes.pre (fun t kt => XS.aloadN X0.here hx rfl (hb hby d3_0) rfl rfl kt) ?_
  show Goes p e below s _ _ _ (s₁.setTop (mkF m 1 #[.val (.ref a1)] [(.ref a1)]))
  obtain ⟨T1, X1, e1, st1⟩ := getF X0 hx hZ hown (host := "") (Or.inl (hw _ (List.mem_of_getElem? (i := 21) rfl))) Via.refl e0 pf_F_a1_com_example_quantail_quantail_SketchFamily_code (g := (mkF m 1 #[.val (.ref a1)] [(.ref a1)])) rfl rfl (hb hby d3_1)
  refine Goes.pre st1 ?_
  show Goes p e below s _ _ _ (T1.setTop (mkF m 4 #[.val (.ref a1)] [(.int w)]))
  refine Goes.ret X1 (some (.int w)) (fun h => by rw [Bd.returns] at h; cases h) (BodyLoose.notSynchronized Bd) (by decide) (by decide) (fun fs hr => retOut X1 hx (t := .int) Bd.returns rfl (Or.inl ⟨rfl, Or.inl rfl, _, rfl⟩) (hb hby d3_4) hr) ?_
  show Q_rm3 Z a1 w h0 n0 _ T1.heap _
  rw [e1]
  exact ⟨rfl, N0, rfl⟩

theorem own_code {s : State} {args : Array Value} {t : Jvm.Term} {x : Addr} {C f : String} {z : Int32} (ht : t.eval args s none [] s = some (.ref x)) (h : (Jvm.Cond.eq (Jvm.Term.field t C f "I") (Jvm.Term.int z)).value args s none s [] = some true) : Fld s s.heap x C f "I" (.int z) := by
  obtain ⟨u, v, e1, e2, -, -⟩ := cmp_v (Or.inl h)
  have e3 := e1
  rw [fld_at ht] at e3
  have e4 : v = .int z := Option.some.inj (e2.symm.trans (Term.int_eval z))
  subst e4
  have e5 : u = .int z := by
    cases u <;> simp [Cond.value, e1, e2] at h
    · subst h; rfl
  subst e5
  exact Fld.start e3
theorem own_elem {s : State} {args : Array Value} {t u : Jvm.Term} {a x : Addr} {c : Cell} {j : Int32} (ht : t.eval args s none [] s = some (.ref a)) (hu : u.eval args s none [] s = some (.ref x)) (hc : s.heap[a]? = some c) (h : (Jvm.Cond.eq (Jvm.Term.elem t (Jvm.Term.int j)) u).value args s none s [] = some true) :
    c.slots[j.toNatClampNeg]? = some (.ref x) := by
  obtain ⟨v, w, e1, e2, -, -⟩ := cmp_v (Or.inl h)
  have e3 := (elem_in e1 ht (Term.int_eval j) hc).2
  have e4 : w = .ref x := Option.some.inj (e2.symm.trans hu)
  subst e4
  have e5 : v = .ref x := by
    cases v <;> simp [Cond.value, e1, e2] at h
    · subst h; rfl
  rw [e3, e5]
theorem own_vals {s : State} {args : Array Value} {t u v : Jvm.Term} {va ka ra : Addr} {cl : Cell} {ty : FieldType} (hf : Fit s) (A : Arr s s.heap va cl ty) (ht : t.eval args s none [] s = some (.ref va)) (hu : u.eval args s none [] s = some (.ref ka)) (hv : v.eval args s none [] s = some (.ref ra))
    (hl : (Jvm.Cond.eq (Jvm.Term.length t) (Jvm.Term.int (2 : Int32))).value args s none s [] = some true) (h0 : (Jvm.Cond.eq (Jvm.Term.elem t (Jvm.Term.int (0 : Int32))) u).value args s none s [] = some true) (h1 : (Jvm.Cond.eq (Jvm.Term.elem t (Jvm.Term.int (1 : Int32))) v).value args s none s [] = some true) :
    Arv s s.heap va cl.cls ty (2 : Int32) [(.ref ka), (.ref ra)] .null := by
  obtain ⟨x, y, e1, e2, -, -⟩ := cmp_v (Or.inl hl)
  obtain ⟨b, cell, g1, g2, g3, g4⟩ := Jvm.Lib.length_spec e1
  cases ht.symm.trans g1
  have e3 : cell = cl := Option.some.inj (g2.symm.trans (A.fin (Vm.Alike.refl _)))
  subst e3 g4
  have e4 : y = .int 2 := Option.some.inj (e2.symm.trans (Term.int_eval 2))
  subst e4
  have e5 : cell.slots.size.toInt32 = 2 := by simpa [Cond.value, e1, e2] using hl
  refine Arv.start hf A g3 e5 (by decide) rfl ⟨own_elem ht hu A.1 h0, own_elem ht hv A.1 h1, trivial⟩
theorem pd_2 : parseMethodDescriptor "(I)Lcom/example/quantail/quantail/SketchFamily;" = some ⟨[.int], some (.object "com/example/quantail/quantail/SketchFamily")⟩ := by decide +kernel
theorem pd_3 : parseMethodDescriptor "()I" = some ⟨[], some .int⟩ := by decide +kernel
theorem pn_4 : plainName "com/example/quantail/quantail/SketchFamilyOfCodePinLaw" = true := by first | (simp [plainName, overriddenIn]; done) | decide +kernel
def Q_rm0 (Z : State) (p1 : Int32) (p2 : Int32) (va : Addr) (kv : ClassId) (ka : Addr) (ra : Addr) (h0 : Heap) (n0 : Nat) (v : Option Value) (h : Heap) (L : List Loc) : Prop := v = some (.int (1 : Int32)) ∧ Fr n0 L
theorem ef_rm0 (m : MethodId) (p1 : Int32) (p2 : Int32) : entryFrame m #[(.int p1), (.int p2)] maxLocals = mkF m 0 #[.val (.int p1), .val (.int p2), .unset, .unset, .unset, .unset, .unset] [] := by first | (simp [entryFrame, mkF, argsToLocals, Value.category, maxLocals]; done) | rfl
set_option maxRecDepth 65536 in
set_option maxHeartbeats 40000000 in
theorem rm0 (l : Launch) (Z : State) (a0 : Array Value) (hw : ∀ d ∈ tables_1, d.before a0 Z = true) (ws : List Jvm.Cond) (p1 : Int32) (p2 : Int32) (va : Addr) (kv : ClassId) (ka : Addr) (ra : Addr) (h0 : Heap) (n0 : Nat) (Z0 : n0 ≤ h0.size) (pf_S_com_example_quantail_quantail_SketchFamily__VALUES : Sta Z Z.heap "com/example/quantail/quantail/SketchFamily" "$VALUES" "[Lcom/example/quantail/quantail/SketchFamily;" (.ref va)) (pf_S_com_example_quantail_quantail_SketchFamily_KLL : Sta Z Z.heap "com/example/quantail/quantail/SketchFamily" "KLL" "Lcom/example/quantail/quantail/SketchFamily;" (.ref ka)) (pf_S_com_example_quantail_quantail_SketchFamily_REQ : Sta Z Z.heap "com/example/quantail/quantail/SketchFamily" "REQ" "Lcom/example/quantail/quantail/SketchFamily;" (.ref ra)) (pf_V_va : Arv Z h0 va kv (.object "com/example/quantail/quantail/SketchFamily") (2 : Int32) [(.ref ka), (.ref ra)] .null) (pf_E_va : Exa Z h0 va "[Lcom/example/quantail/quantail/SketchFamily;") (pf_F_ka_com_example_quantail_quantail_SketchFamily_code : Fld Z h0 ka "com/example/quantail/quantail/SketchFamily" "code" "I" (.int (1 : Int32))) (pf_F_ra_com_example_quantail_quantail_SketchFamily_code : Fld Z h0 ra "com/example/quantail/quantail/SketchFamily" "code" "I" (.int (2 : Int32))) (pf_E_ka : Exa Z h0 ka "com/example/quantail/quantail/SketchFamily") (pf_E_ra : Exa Z h0 ra "com/example/quantail/quantail/SketchFamily") (X00 : Old Z n0 h0) :
    MetFree l x (head1 (Jvm.Cond.code x code maxLocals ret :: ws) room_1) (fun a U => a = #[(.int p1), (.int p2)] ∧ Z.Warmed39 U.vm ∧ U.heap = h0) (fun _ _ _ _ _ => True) (fun _ U o U' => ∃ v L, o = .returned v ∧ Q_rm0 Z p1 p2 va kv ka ra h0 n0 v U'.heap L ∧ FrameEnd U o U' L room_1.cells room_1.slots) := by
  refine MetFree.of_bodySF (plainFor_of_name pn_4) hisR ?_
  intro p e s m args below meth c s₁ Bd hml0 hP hK
  obtain ⟨rfl, hZ, hh⟩ := hP
  have hx := Bd.exec
  have hby := Bd.bytes
  have hml : c.maxLocals = 7 := hml0
  have hown : s.vm.findClass "com/example/quantail/quantail/SketchFamilyOfCodePinLaw" = some m.cls := findClass_of_methodNamed Bd.named
  have hnm := (name_of_methodNamed Bd.named Bd.method).1
  have X0 : Stand p l e room_1 s m #[(.int p1), (.int p2)] below meth c s₁ [] 0 0 := Stand.of_body Bd
  have e0 : s₁.heap = h0 := by rw [← hh, Bd.state]; rfl
  have N0 := Fr.nil n0
  show Goes p e below s (Q_rm0 Z p1 p2 va kv ka ra h0 n0) room_1.cells room_1.slots (s₁.setTop (entryFrame m #[(.int p1), (.int p2)] maxLocals))
  refine Goes.pre (fun t kt => castTop (ef_rm0 m p1 p2) kt) ?_
  show Goes p e below s _ _ _ (s₁.setTop (mkF m 0 #[.val (.int p1), .val (.int p2), .unset, .unset, .unset, .unset, .unset] []))
  refine Goes.pre (fun t kt => XS.iloadN X0.here hx rfl (hb hby at_0) rfl kt) ?_
  show Goes p e below s _ _ _ (s₁.setTop (mkF m 1 #[.val (.int p1), .val (.int p2), .unset, .unset, .unset, .unset, .unset] [(.int p2)]))
  refine Goes.pre (fun t kt => XS.iconst X0.here hx rfl (hb hby at_1) kt) ?_
  show Goes p e below s _ _ _ (s₁.setTop (mkF m 2 #[.val (.int p1), .val (.int p2), .unset, .unset, .unset, .unset, .unset] [(.int (3 : Int32)), (.int p2)]))
  refine Goes.pre (fun t kt => XS.iand X0.here hx rfl (hb hby at_2) rfl kt) ?_
  show Goes p e below s _ _ _ (s₁.setTop (mkF m 3 #[.val (.int p1), .val (.int p2), .unset, .unset, .unset, .unset, .unset] [(.int (p2 &&& (3 : Int32)))]))
  refine Goes.pre (fun t kt => XS.istoreN X0.here hx rfl (hb hby at_3) rfl (l' := #[.val (.int p1), .val (.int p2), .val (.int (p2 &&& (3 : Int32))), .unset, .unset, .unset, .unset]) rfl kt) ?_
  show Goes p e below s _ _ _ (s₁.setTop (mkF m 4 #[.val (.int p1), .val (.int p2), .val (.int (p2 &&& (3 : Int32))), .unset, .unset, .unset, .unset] []))
  refine Goes.pre (fun t kt => XS.iloadN X0.here hx rfl (hb hby at_4) rfl kt) ?_
  show Goes p e below s _ _ _ (s₁.setTop (mkF m 5 #[.val (.int p1), .val (.int p2), .val (.int (p2 &&& (3 : Int32))), .unset, .unset, .unset, .unset] [(.int (p2 &&& (3 : Int32)))]))
  by_cases hc5 : (p2 &&& (3 : Int32)) = (0 : Int32)
  · refine Goes.pre (fun t kt => XS.ifNo X0.here hx rfl (hb hby at_5) rfl (Jvm.Free.XT.i0_ne_f (hc5)) kt) ?_
    show Goes p e below s _ _ _ (s₁.setTop (mkF m 8 #[.val (.int p1), .val (.int p2), .val (.int (p2 &&& (3 : Int32))), .unset, .unset, .unset, .unset] []))
    refine Goes.pre (fun t kt => XS.iconst X0.here hx rfl (hb hby at_8) kt) ?_
    show Goes p e below s _ _ _ (s₁.setTop (mkF m 9 #[.val (.int p1), .val (.int p2), .val (.int (p2 &&& (3 : Int32))), .unset, .unset, .unset, .unset] [(.int (1 : Int32))]))
    refine Goes.pre (fun t kt => XS.istoreN X0.here hx rfl (hb hby at_9) rfl (l' := #[.val (.int p1), .val (.int p2), .val (.int (p2 &&& (3 : Int32))), .val (.int (1 : Int32)), .unset, .unset, .unset]) rfl kt) ?_
    show Goes p e below s _ _ _ (s₁.setTop (mkF m 10 #[.val (.int p1), .val (.int p2), .val (.int (p2 &&& (3 : Int32))), .val (.int (1 : Int32)), .unset, .unset, .unset] []))
    refine Goes.pre (fun t kt => XS.goto X0.here hx rfl (pc0 := 10) (pc' := 25) rfl (hb hby at_10) (by decide) (by decide) kt) ?_
    show Goes p e below s _ _ _ (s₁.setTop (mkF m 25 #[.val (.int p1), .val (.int p2), .val (.int (p2 &&& (3 : Int32))), .val (.int (1 : Int32)), .unset, .unset, .unset] []))
    refine Goes.pre (fun t kt => XS.iloadN X0.here hx rfl (hb hby at_25) rfl kt) ?_
    show Goes p e below s _ _ _ (s₁.setTop (mkF m 26 #[.val (.int p1), .val (.int p2), .val (.int (p2 &&& (3 : Int32))), .val (.int (1 : Int32)), .unset, .unset, .unset] [(.int (1 : Int32))]))
    obtain ⟨_, _, ⟨T1, L1, k1, n1⟩, -, X1, ⟨Lc1, hQ1, l1, y1, z1⟩, st1⟩ := Jvm.LawKit.callS X0 hx (y := (⟨"com/example/quantail/quantail/SketchFamily", "ofCode", "(I)Lcom/example/quantail/quantail/SketchFamily;"⟩ : MethodName)) hown (mvT hZ (hw _ (List.mem_of_getElem? (i := 0) rfl))) (mvT hZ (hw _ (List.mem_of_getElem? (i := 1) rfl))) (mvT hZ (hw _ (List.mem_of_getElem? (i := 2) rfl))) (mvT hZ (hw _ (List.mem_of_getElem? (i := 3) rfl))) (by decide) (backOf (W := 0) (rm1_1 l Z a0 hw [] (1 : Int32) va kv ka ra h0 n0 Z0 pf_S_com_example_quantail_quantail_SketchFamily__VALUES pf_V_va pf_E_va pf_F_ka_com_example_quantail_quantail_SketchFamily_code pf_F_ra_com_example_quantail_quantail_SketchFamily_code (rfl) X00) hZ (hw _ (List.mem_of_getElem? (i := 3) rfl)) (hw _ (List.mem_of_getElem? (i := 2) rfl)) (by decide) (by decide)) (g := (mkF m 26 #[.val (.int p1), .val (.int p2), .val (.int (p2 &&& (3 : Int32))), .val (.int (1 : Int32)), .unset, .unset, .unset] [(.int (1 : Int32))])) rfl (by rw [hml]; rfl) (argsL := [(.int (1 : Int32))]) (rest := []) (lenOf pd_2 rfl) rfl (by show 2 * 0 + _ ≤ _; exact Nat.le_of_eq rfl) (hb hby at_26) (fun _ _ => ⟨rfl, e0, (by decide : 0 + 1 ≤ _), (by decide : 0 + 2 ≤ _)⟩)
    dsimp only [Pt.U, Pt.locs, Pt.cells, Pt.slots] at X1 l1 y1 z1 st1 hQ1
    subst l1 y1 z1
    obtain ⟨rfl, Nq1, Kq1⟩ := hQ1
    refine Goes.pre st1 ?_
    have N1 := Fr.app N0 Nq1
    obtain ⟨h1, e1⟩ : ∃ z, T1.heap = z := ⟨_, rfl⟩
    rw [e1] at Kq1 
    have Z1 : n0 ≤ h1.size := Nat.le_trans Z0 Kq1.1
    have Od1 := X00.keep Kq1 all0
    show Goes p e below s _ _ _ (T1.setTop (mkF m 29 #[.val (.int p1), .val (.int p2), .val (.int (p2 &&& (3 : Int32))), .val (.int (1 : Int32)), .unset, .unset, .unset] [(.ref ka)]))
    refine Goes.pre (fun t kt => XS.astore X1.here hx rfl (hb hby at_29) rfl rfl (l' := #[.val (.int p1), .val (.int p2), .val (.int (p2 &&& (3 : Int32))), .val (.int (1 : Int32)), .val (.ref ka), .unset, .unset]) rfl kt) ?_
    show Goes p e below s _ _ _ (T1.setTop (mkF m 31 #[.val (.int p1), .val (.int p2), .val (.int (p2 &&& (3 : Int32))), .val (.int (1 : Int32)), .val (.ref ka), .unset, .unset] []))
    refine Goes.pre (fun t kt => XS.iloadN X1.here hx rfl (hb hby at_31) rfl kt) ?_
    show Goes p e below s _ _ _ (T1.setTop (mkF m 32 #[.val (.int p1), .val (.int p2), .val (.int (p2 &&& (3 : Int32))), .val (.int (1 : Int32)), .val (.ref ka), .unset, .unset] [(.int (1 : Int32))]))
    refine Goes.pre (fun t kt => XS.iconst X1.here hx rfl (hb hby at_32) kt) ?_
    show Goes p e below s _ _ _ (T1.setTop (mkF m 33 #[.val (.int p1), .val (.int p2), .val (.int (p2 &&& (3 : Int32))), .val (.int (1 : Int32)), .val (.ref ka), .unset, .unset] [(.int (1 : Int32)), (.int (1 : Int32))]))
    refine Goes.pre (fun t kt => XS.icmpNo X1.here hx rfl (hb hby at_33) rfl (Jvm.Free.XT.ii_ne_f ((by decide))) kt) ?_
    show Goes p e below s _ _ _ (T1.setTop (mkF m 36 #[.val (.int p1), .val (.int p2), .val (.int (p2 &&& (3 : Int32))), .val (.int (1 : Int32)), .val (.ref ka), .unset, .unset] []))
    obtain ⟨T2, X2, e2, st2⟩ := getS2 X1 hx hZ hown (host := "") (Or.inl (hw _ (List.mem_of_getElem? (i := 23) rfl))) Via.refl e1 (pf_S_com_example_quantail_quantail_SketchFamily_KLL.ext Od1.2) (g := (mkF m 36 #[.val (.int p1), .val (.int p2), .val (.int (p2 &&& (3 : Int32))), .val (.int (1 : Int32)), .val (.ref ka), .unset, .unset] [])) rfl (hb hby at_36)
    refine Goes.pre st2 ?_
    show Goes p e below s _ _ _ (T2.setTop (mkF m 39 #[.val (.int p1), .val (.int p2), .val (.int (p2 &&& (3 : Int32))), .val (.int (1 : Int32)), .val (.ref ka), .unset, .unset] [(.ref ka)]))
    refine Goes.pre (fun t kt => XS.astore X2.here hx rfl (hb hby at_39) rfl rfl (l' := #[.val (.int p1), .val (.int p2), .val (.int (p2 &&& (3 : Int32))), .val (.int (1 : Int32)), .val (.ref ka), .val (.ref ka), .unset]) rfl kt) ?_
    show Goes p e below s _ _ _ (T2.setTop (mkF m 41 #[.val (.int p1), .val (.int p2), .val (.int (p2 &&& (3 : Int32))), .val (.int (1 : Int32)), .val (.ref ka), .val (.ref ka), .unset] []))
    refine Goes.pre (fun t kt => XS.goto X2.here hx rfl (pc0 := 41) (pc' := 60) rfl (hb hby at_41) (by decide) (by decide) kt) ?_
    show Goes p e below s _ _ _ (T2.setTop (mkF m 60 #[.val (.int p1), .val (.int p2), .val (.int (p2 &&& (3 : Int32))), .val (.int (1 : Int32)), .val (.ref ka), .val (.ref ka), .unset] []))
    obtain ⟨T3, X3, e3, st3⟩ := getS2 X2 hx hZ hown (host := "") (Or.inl (hw _ (List.mem_of_getElem? (i := 23) rfl))) Via.refl e2 (pf_S_com_example_quantail_quantail_SketchFamily_KLL.ext Od1.2) (g := (mkF m 60 #[.val (.int p1), .val (.int p2), .val (.int (p2 &&& (3 : Int32))), .val (.int (1 : Int32)), .val (.ref ka), .val (.ref ka), .unset] [])) rfl (hb hby at_60)
    refine Goes.pre st3 ?_
    show Goes p e below s _ _ _ (T3.setTop (mkF m 63 #[.val (.int p1), .val (.int p2), .val (.int (p2 &&& (3 : Int32))), .val (.int (1 : Int32)), .val (.ref ka), .val (.ref ka), .unset] [(.ref ka)]))
    have fc4 : Fld Z h1 ka "com/example/quantail/quantail/SketchFamily" "code" "I" (.int (1 : Int32)) := (pf_F_ka_com_example_quantail_quantail_SketchFamily_code.keep Kq1 nin0)
    have fc7 : Exa Z h1 ka "com/example/quantail/quantail/SketchFamily" := (pf_E_ka.keep Kq1)
    obtain ⟨cq6, kq6, qa6, qb6, qc6⟩ := isOf hZ e3 fc7
    obtain ⟨_, _, ⟨T5, L5, k5, n5⟩, -, X5, ⟨Lc5, hQ5, l5, y5, z5⟩, st5⟩ := X3.virtualBack hx (y := (⟨"com/example/quantail/quantail/SketchFamily", "code", "()I"⟩ : MethodName)) (z := (⟨"com/example/quantail/quantail/SketchFamily", "code", "()I"⟩ : MethodName)) hown (mvT hZ (hw _ (List.mem_of_getElem? (i := 24) rfl))) (mvT hZ (hw _ (List.mem_of_getElem? (i := 25) rfl))) (notFace_of_selects (args := #[]) (mvT hZ (hw _ (List.mem_of_getElem? (i := 27) rfl)))) (mvT hZ (hw _ (List.mem_of_getElem? (i := 27) rfl))) (mvT hZ (hw _ (List.mem_of_getElem? (i := 26) rfl))) (by decide) (backOf (W := 0) (rm3 l Z a0 hw [] ka (1 : Int32) h1 n0 Z1 fc4) hZ (hw _ (List.mem_of_getElem? (i := 28) rfl)) (hw _ (List.mem_of_getElem? (i := 2) rfl)) (by decide) (by decide)) qa6 qc6 (g := (mkF m 63 #[.val (.int p1), .val (.int p2), .val (.int (p2 &&& (3 : Int32))), .val (.int (1 : Int32)), .val (.ref ka), .val (.ref ka), .unset] [(.ref ka)])) rfl (by rw [hml]; rfl) (Steps.refl _) (argsL := []) (rest := []) (lenOf pd_3 rfl) rfl (by show 2 * 0 + _ ≤ _; exact Nat.le_of_eq rfl) (hb hby at_63) (fun _ _ => ⟨rfl, e3, (by decide : 1 + 0 ≤ _), (by decide : 2 + 0 ≤ _)⟩)
    dsimp only [Pt.U, Pt.locs, Pt.cells, Pt.slots] at X5 l5 y5 z5 st5 hQ5
    subst l5 y5 z5
    obtain ⟨rfl, Nq5, eq5⟩ := hQ5
    refine Goes.run st5 ?_
    have N5 := Fr.app N1 Nq5
    show Goes p e below s _ _ _ (T5.setTop (mkF m 66 #[.val (.int p1), .val (.int p2), .val (.int (p2 &&& (3 : Int32))), .val (.int (1 : Int32)), .val (.ref ka), .val (.ref ka), .unset] [(.int (1 : Int32))]))
    have fc8 : Arv Z h1 va kv (.object "com/example/quantail/quantail/SketchFamily") (2 : Int32) [(.ref ka), (.ref ra)] .null := (pf_V_va.keep Kq1 nin0)
    have fc9 : Exa Z h1 va "[Lcom/example/quantail/quantail/SketchFamily;" := (pf_E_va.keep Kq1)
    have fc10 : Fld Z h1 ra "com/example/quantail/quantail/SketchFamily" "code" "I" (.int (2 : Int32)) := (pf_F_ra_com_example_quantail_quantail_SketchFamily_code.keep Kq1 nin0)
    obtain ⟨_, _, ⟨T11, L11, k11, n11⟩, -, X11, ⟨Lc11, hQ11, l11, y11, z11⟩, st11⟩ := Jvm.LawKit.callS X5 hx (y := (⟨"com/example/quantail/quantail/SketchFamily", "ofCode", "(I)Lcom/example/quantail/quantail/SketchFamily;"⟩ : MethodName)) hown (mvT hZ (hw _ (List.mem_of_getElem? (i := 0) rfl))) (mvT hZ (hw _ (List.mem_of_getElem? (i := 1) rfl))) (mvT hZ (hw _ (List.mem_of_getElem? (i := 2) rfl))) (mvT hZ (hw _ (List.mem_of_getElem? (i := 3) rfl))) (by decide) (backOf (W := 0) (rm1_1 l Z a0 hw [] (1 : Int32) va kv ka ra h1 n0 Z1 pf_S_com_example_quantail_quantail_SketchFamily__VALUES fc8 fc9 fc4 fc10 (rfl) Od1) hZ (hw _ (List.mem_of_getElem? (i := 3) rfl)) (hw _ (List.mem_of_getElem? (i := 2) rfl)) (by decide) (by decide)) (g := (mkF m 66 #[.val (.int p1), .val (.int p2), .val (.int (p2 &&& (3 : Int32))), .val (.int (1 : Int32)), .val (.ref ka), .val (.ref ka), .unset] [(.int (1 : Int32))])) rfl (by rw [hml]; rfl) (argsL := [(.int (1 : Int32))]) (rest := []) (lenOf pd_2 rfl) rfl (by show 2 * 0 + _ ≤ _; exact Nat.le_of_eq rfl) (hb hby at_66) (fun _ _ => ⟨rfl, eq5, (by decide : 1 + 1 ≤ _), (by decide : 2 + 2 ≤ _)⟩)
    dsimp only [Pt.U, Pt.locs, Pt.cells, Pt.slots] at X11 l11 y11 z11 st11 hQ11
    subst l11 y11 z11
    obtain ⟨rfl, Nq11, Kq11⟩ := hQ11
    refine Goes.pre st11 ?_
    have N11 := Fr.app N5 Nq11
    obtain ⟨h11, e11⟩ : ∃ z, T11.heap = z := ⟨_, rfl⟩
    rw [e11] at Kq11 
    have Z11 : n0 ≤ h11.size := Nat.le_trans Z1 Kq11.1
    have Od11 := Od1.keep Kq11 all0
    show Goes p e below s _ _ _ (T11.setTop (mkF m 69 #[.val (.int p1), .val (.int p2), .val (.int (p2 &&& (3 : Int32))), .val (.int (1 : Int32)), .val (.ref ka), .val (.ref ka), .unset] [(.ref ka)]))
    obtain ⟨T12, X12, e12, st12⟩ := getS2 X11 hx hZ hown (host := "") (Or.inl (hw _ (List.mem_of_getElem? (i := 23) rfl))) Via.refl e11 (pf_S_com_example_quantail_quantail_SketchFamily_KLL.ext Od11.2) (g := (mkF m 69 #[.val (.int p1), .val (.int p2), .val (.int (p2 &&& (3 : Int32))), .val (.int (1 : Int32)), .val (.ref ka), .val (.ref ka), .unset] [(.ref ka)])) rfl (hb hby at_69)
    refine Goes.pre st12 ?_
    show Goes p e below s _ _ _ (T12.setTop (mkF m 72 #[.val (.int p1), .val (.int p2), .val (.int (p2 &&& (3 : Int32))), .val (.int (1 : Int32)), .val (.ref ka), .val (.ref ka), .unset] [(.ref ka), (.ref ka)]))
    refine Goes.pre (fun t kt => Jvm.RoadKit.acmp (g := (mkF m 72 #[.val (.int p1), .val (.int p2), .val (.int (p2 &&& (3 : Int32))), .val (.int (1 : Int32)), .val (.ref ka), .val (.ref ka), .unset] [(.ref ka), (.ref ka)])) X12 hx rfl rfl rfl (pc0 := 72) (pc' := 75) (same := true) rfl (hb hby at_72) rfl (decide_eq_true rfl) (by decide) (by decide) kt) ?_
    show Goes p e below s _ _ _ (T12.setTop (mkF m 75 #[.val (.int p1), .val (.int p2), .val (.int (p2 &&& (3 : Int32))), .val (.int (1 : Int32)), .val (.ref ka), .val (.ref ka), .unset] []))
    obtain ⟨T13, X13, e13, st13⟩ := getS2 X12 hx hZ hown (host := "") (Or.inl (hw _ (List.mem_of_getElem? (i := 29) rfl))) Via.refl e12 (pf_S_com_example_quantail_quantail_SketchFamily_REQ.ext Od11.2) (g := (mkF m 75 #[.val (.int p1), .val (.int p2), .val (.int (p2 &&& (3 : Int32))), .val (.int (1 : Int32)), .val (.ref ka), .val (.ref ka), .unset] [])) rfl (hb hby at_75)
    refine Goes.pre st13 ?_
    show Goes p e below s _ _ _ (T13.setTop (mkF m 78 #[.val (.int p1), .val (.int p2), .val (.int (p2 &&& (3 : Int32))), .val (.int (1 : Int32)), .val (.ref ka), .val (.ref ka), .unset] [(.ref ra)]))
    have fc14 : Fld Z h11 ra "com/example/quantail/quantail/SketchFamily" "code" "I" (.int (2 : Int32)) := (fc10.keep Kq11 nin0)
    have fc17 : Exa Z h11 ra "com/example/quantail/quantail/SketchFamily" := ((pf_E_ra.keep Kq1).keep Kq11)
    obtain ⟨cq16, kq16, qa16, qb16, qc16⟩ := isOf hZ e13 fc17
    obtain ⟨_, _, ⟨T15, L15, k15, n15⟩, -, X15, ⟨Lc15, hQ15, l15, y15, z15⟩, st15⟩ := X13.virtualBack hx (y := (⟨"com/example/quantail/quantail/SketchFamily", "code", "()I"⟩ : MethodName)) (z := (⟨"com/example/quantail/quantail/SketchFamily", "code", "()I"⟩ : MethodName)) hown (mvT hZ (hw _ (List.mem_of_getElem? (i := 24) rfl))) (mvT hZ (hw _ (List.mem_of_getElem? (i := 25) rfl))) (notFace_of_selects (args := #[]) (mvT hZ (hw _ (List.mem_of_getElem? (i := 27) rfl)))) (mvT hZ (hw _ (List.mem_of_getElem? (i := 27) rfl))) (mvT hZ (hw _ (List.mem_of_getElem? (i := 26) rfl))) (by decide) (backOf (W := 0) (rm3 l Z a0 hw [] ra (2 : Int32) h11 n0 Z11 fc14) hZ (hw _ (List.mem_of_getElem? (i := 28) rfl)) (hw _ (List.mem_of_getElem? (i := 2) rfl)) (by decide) (by decide)) qa16 qc16 (g := (mkF m 78 #[.val (.int p1), .val (.int p2), .val (.int (p2 &&& (3 : Int32))), .val (.int (1 : Int32)), .val (.ref ka), .val (.ref ka), .unset] [(.ref ra)])) rfl (by rw [hml]; rfl) (Steps.refl _) (argsL := []) (rest := []) (lenOf pd_3 rfl) rfl (by show 2 * 0 + _ ≤ _; exact Nat.le_of_eq rfl) (hb hby at_78) (fun _ _ => ⟨rfl, e13, (by decide : 2 + 0 ≤ _), (by decide : 4 + 0 ≤ _)⟩)
    dsimp only [Pt.U, Pt.locs, Pt.cells, Pt.slots] at X15 l15 y15 z15 st15 hQ15
    subst l15 y15 z15
    obtain ⟨rfl, Nq15, eq15⟩ := hQ15
    refine Goes.run st15 ?_
    have N15 := Fr.app N11 Nq15
    show Goes p e below s _ _ _ (T15.setTop (mkF m 81 #[.val (.int p1), .val (.int p2), .val (.int (p2 &&& (3 : Int32))), .val (.int (1 : Int32)), .val (.ref ka), .val (.ref ka), .unset] [(.int (2 : Int32))]))
    have fc18 : Arv Z h11 va kv (.object "com/example/quantail/quantail/SketchFamily") (2 : Int32) [(.ref ka), (.ref ra)] .null := (fc8.keep Kq11 nin0)
    have fc19 : Exa Z h11 va "[Lcom/example/quantail/quantail/SketchFamily;" := (fc9.keep Kq11)
    have fc20 : Fld Z h11 ka "com/example/quantail/quantail/SketchFamily" "code" "I" (.int (1 : Int32)) := (fc4.keep Kq11 nin0)
    obtain ⟨_, _, ⟨T21, L21, k21, n21⟩, -, X21, ⟨Lc21, hQ21, l21, y21, z21⟩, st21⟩ := Jvm.LawKit.callS X15 hx (y := (⟨"com/example/quantail/quantail/SketchFamily", "ofCode", "(I)Lcom/example/quantail/quantail/SketchFamily;"⟩ : MethodName)) hown (mvT hZ (hw _ (List.mem_of_getElem? (i := 0) rfl))) (mvT hZ (hw _ (List.mem_of_getElem? (i := 1) rfl))) (mvT hZ (hw _ (List.mem_of_getElem? (i := 2) rfl))) (mvT hZ (hw _ (List.mem_of_getElem? (i := 3) rfl))) (by decide) (backOf (W := 0) (rm1_2 l Z a0 hw [] (2 : Int32) va kv ka ra h11 n0 Z11 pf_S_com_example_quantail_quantail_SketchFamily__VALUES fc18 fc19 fc20 fc14 (rfl) Od11) hZ (hw _ (List.mem_of_getElem? (i := 3) rfl)) (hw _ (List.mem_of_getElem? (i := 2) rfl)) (by decide) (by decide)) (g := (mkF m 81 #[.val (.int p1), .val (.int p2), .val (.int (p2 &&& (3 : Int32))), .val (.int (1 : Int32)), .val (.ref ka), .val (.ref ka), .unset] [(.int (2 : Int32))])) rfl (by rw [hml]; rfl) (argsL := [(.int (2 : Int32))]) (rest := []) (lenOf pd_2 rfl) rfl (by show 2 * 0 + _ ≤ _; exact Nat.le_of_eq rfl) (hb hby at_81) (fun _ _ => ⟨rfl, eq15, (by decide : 2 + 1 ≤ _), (by decide : 4 + 2 ≤ _)⟩)
    dsimp only [Pt.U, Pt.locs, Pt.cells, Pt.slots] at X21 l21 y21 z21 st21 hQ21
    subst l21 y21 z21
    obtain ⟨rfl, Nq21, Kq21⟩ := hQ21
    refine Goes.pre st21 ?_
    have N21 := Fr.app N15 Nq21
    obtain ⟨h21, e21⟩ : ∃ z, T21.heap = z := ⟨_, rfl⟩
    rw [e21] at Kq21 
    have Z21 : n0 ≤ h21.size := Nat.le_trans Z11 Kq21.1
    have Od21 := Od11.keep Kq21 all0
    show Goes p e below s _ _ _ (T21.setTop (mkF m 84 #[.val (.int p1), .val (.int p2), .val (.int (p2 &&& (3 : Int32))), .val (.int (1 : Int32)), .val (.ref ka), .val (.ref ka), .unset] [(.ref ra)]))
    obtain ⟨T22, X22, e22, st22⟩ := getS2 X21 hx hZ hown (host := "") (Or.inl (hw _ (List.mem_of_getElem? (i := 29) rfl))) Via.refl e21 (pf_S_com_example_quantail_quantail_SketchFamily_REQ.ext Od21.2) (g := (mkF m 84 #[.val (.int p1), .val (.int p2), .val (.int (p2 &&& (3 : Int32))), .val (.int (1 : Int32)), .val (.ref ka), .val (.ref ka), .unset] [(.ref ra)])) rfl (hb hby at_84)
    refine Goes.pre st22 ?_
    show Goes p e below s _ _ _ (T22.setTop (mkF m 87 #[.val (.int p1), .val (.int p2), .val (.int (p2 &&& (3 : Int32))), .val (.int (1 : Int32)), .val (.ref ka), .val (.ref ka), .unset] [(.ref ra), (.ref ra)]))
    refine Goes.pre (fun t kt => Jvm.RoadKit.acmp (g := (mkF m 87 #[.val (.int p1), .val (.int p2), .val (.int (p2 &&& (3 : Int32))), .val (.int (1 : Int32)), .val (.ref ka), .val (.ref ka), .unset] [(.ref ra), (.ref ra)])) X22 hx rfl rfl rfl (pc0 := 87) (pc' := 90) (same := true) rfl (hb hby at_87) rfl (decide_eq_true rfl) (by decide) (by decide) kt) ?_
    show Goes p e below s _ _ _ (T22.setTop (mkF m 90 #[.val (.int p1), .val (.int p2), .val (.int (p2 &&& (3 : Int32))), .val (.int (1 : Int32)), .val (.ref ka), .val (.ref ka), .unset] []))
    refine Goes.pre (fun t kt => XS.iconst X22.here hx rfl (hb hby at_90) kt) ?_
    show Goes p e below s _ _ _ (T22.setTop (mkF m 91 #[.val (.int p1), .val (.int p2), .val (.int (p2 &&& (3 : Int32))), .val (.int (1 : Int32)), .val (.ref ka), .val (.ref ka), .unset] [(.int (1 : Int32))]))
    refine Goes.pre (fun t kt => XS.goto X22.here hx rfl (pc0 := 91) (pc' := 95) rfl (hb hby at_91) (by decide) (by decide) kt) ?_
    show Goes p e below s _ _ _ (T22.setTop (mkF m 95 #[.val (.int p1), .val (.int p2), .val (.int (p2 &&& (3 : Int32))), .val (.int (1 : Int32)), .val (.ref ka), .val (.ref ka), .unset] [(.int (1 : Int32))]))
    refine Goes.pre (fun t kt => XS.istore X22.here hx rfl (hb hby at_95) rfl (l' := #[.val (.int p1), .val (.int p2), .val (.int (p2 &&& (3 : Int32))), .val (.int (1 : Int32)), .val (.ref ka), .val (.ref ka), .val (.int (1 : Int32))]) rfl kt) ?_
    show Goes p e below s _ _ _ (T22.setTop (mkF m 97 #[.val (.int p1), .val (.int p2), .val (.int (p2 &&& (3 : Int32))), .val (.int (1 : Int32)), .val (.ref ka), .val (.ref ka), .val (.int (1 : Int32))] []))
    refine Goes.pre (fun t kt => XS.aload X22.here hx rfl (hb hby at_97) rfl rfl kt) ?_
    show Goes p e below s _ _ _ (T22.setTop (mkF m 99 #[.val (.int p1), .val (.int p2), .val (.int (p2 &&& (3 : Int32))), .val (.int (1 : Int32)), .val (.ref ka), .val (.ref ka), .val (.int (1 : Int32))] [(.ref ka)]))
    refine Goes.pre (fun t kt => XS.aload X22.here hx rfl (hb hby at_99) rfl rfl kt) ?_
    show Goes p e below s _ _ _ (T22.setTop (mkF m 101 #[.val (.int p1), .val (.int p2), .val (.int (p2 &&& (3 : Int32))), .val (.int (1 : Int32)), .val (.ref ka), .val (.ref ka), .val (.int (1 : Int32))] [(.ref ka), (.ref ka)]))
    refine Goes.pre (fun t kt => Jvm.RoadKit.acmp (g := (mkF m 101 #[.val (.int p1), .val (.int p2), .val (.int (p2 &&& (3 : Int32))), .val (.int (1 : Int32)), .val (.ref ka), .val (.ref ka), .val (.int (1 : Int32))] [(.ref ka), (.ref ka)])) X22 hx rfl rfl rfl (pc0 := 101) (pc' := 104) (same := true) rfl (hb hby at_101) rfl (decide_eq_true rfl) (by decide) (by decide) kt) ?_
    show Goes p e below s _ _ _ (T22.setTop (mkF m 104 #[.val (.int p1), .val (.int p2), .val (.int (p2 &&& (3 : Int32))), .val (.int (1 : Int32)), .val (.ref ka), .val (.ref ka), .val (.int (1 : Int32))] []))
    refine Goes.pre (fun t kt => XS.iload X22.here hx rfl (hb hby at_104) rfl kt) ?_
    show Goes p e below s _ _ _ (T22.setTop (mkF m 106 #[.val (.int p1), .val (.int p2), .val (.int (p2 &&& (3 : Int32))), .val (.int (1 : Int32)), .val (.ref ka), .val (.ref ka), .val (.int (1 : Int32))] [(.int (1 : Int32))]))
    refine Goes.pre (fun t kt => XS.ifNo X22.here hx rfl (hb hby at_106) rfl (Jvm.Free.XT.i0_eq_f ((by decide))) kt) ?_
    show Goes p e below s _ _ _ (T22.setTop (mkF m 109 #[.val (.int p1), .val (.int p2), .val (.int (p2 &&& (3 : Int32))), .val (.int (1 : Int32)), .val (.ref ka), .val (.ref ka), .val (.int (1 : Int32))] []))
    refine Goes.pre (fun t kt => XS.iconst X22.here hx rfl (hb hby at_109) kt) ?_
    show Goes p e below s _ _ _ (T22.setTop (mkF m 110 #[.val (.int p1), .val (.int p2), .val (.int (p2 &&& (3 : Int32))), .val (.int (1 : Int32)), .val (.ref ka), .val (.ref ka), .val (.int (1 : Int32))] [(.int (1 : Int32))]))
    refine Goes.pre (fun t kt => XS.goto X22.here hx rfl (pc0 := 110) (pc' := 114) rfl (hb hby at_110) (by decide) (by decide) kt) ?_
    show Goes p e below s _ _ _ (T22.setTop (mkF m 114 #[.val (.int p1), .val (.int p2), .val (.int (p2 &&& (3 : Int32))), .val (.int (1 : Int32)), .val (.ref ka), .val (.ref ka), .val (.int (1 : Int32))] [(.int (1 : Int32))]))
    refine Goes.ret X22 (some (.int (1 : Int32))) (fun h => by rw [Bd.returns] at h; cases h) (BodyLoose.notSynchronized Bd) (by decide) (by decide) (fun fs hr => retN X22 hx (t := .boolean) Bd.returns (by simp) (hb hby at_114) hr) ?_
    show Q_rm0 Z p1 p2 va kv ka ra h0 n0 _ T22.heap _
    rw [e22]
    exact ⟨rfl, N21⟩
  · refine Goes.pre (fun t kt => XS.ifYes X0.here hx rfl (pc0 := 5) (pc' := 13) rfl (hb hby at_5) rfl (Jvm.Free.XT.i0_ne_t (hc5)) (by decide) (by decide) kt) ?_
    show Goes p e below s _ _ _ (s₁.setTop (mkF m 13 #[.val (.int p1), .val (.int p2), .val (.int (p2 &&& (3 : Int32))), .unset, .unset, .unset, .unset] []))
    refine Goes.pre (fun t kt => XS.iloadN X0.here hx rfl (hb hby at_13) rfl kt) ?_
    show Goes p e below s _ _ _ (s₁.setTop (mkF m 14 #[.val (.int p1), .val (.int p2), .val (.int (p2 &&& (3 : Int32))), .unset, .unset, .unset, .unset] [(.int (p2 &&& (3 : Int32)))]))
    refine Goes.pre (fun t kt => XS.iconst X0.here hx rfl (hb hby at_14) kt) ?_
    show Goes p e below s _ _ _ (s₁.setTop (mkF m 15 #[.val (.int p1), .val (.int p2), .val (.int (p2 &&& (3 : Int32))), .unset, .unset, .unset, .unset] [(.int (1 : Int32)), (.int (p2 &&& (3 : Int32)))]))
    by_cases hc15 : (p2 &&& (3 : Int32)) = (1 : Int32)
    · refine Goes.pre (fun t kt => XS.icmpNo X0.here hx rfl (hb hby at_15) rfl (Jvm.Free.XT.ii_ne_f (hc15)) kt) ?_
      show Goes p e below s _ _ _ (s₁.setTop (mkF m 18 #[.val (.int p1), .val (.int p2), .val (.int (p2 &&& (3 : Int32))), .unset, .unset, .unset, .unset] []))
      refine Goes.pre (fun t kt => XS.iconst X0.here hx rfl (hb hby at_18) kt) ?_
      show Goes p e below s _ _ _ (s₁.setTop (mkF m 19 #[.val (.int p1), .val (.int p2), .val (.int (p2 &&& (3 : Int32))), .unset, .unset, .unset, .unset] [(.int (2 : Int32))]))
      refine Goes.pre (fun t kt => XS.istoreN X0.here hx rfl (hb hby at_19) rfl (l' := #[.val (.int p1), .val (.int p2), .val (.int (p2 &&& (3 : Int32))), .val (.int (2 : Int32)), .unset, .unset, .unset]) rfl kt) ?_
      show Goes p e below s _ _ _ (s₁.setTop (mkF m 20 #[.val (.int p1), .val (.int p2), .val (.int (p2 &&& (3 : Int32))), .val (.int (2 : Int32)), .unset, .unset, .unset] []))
      refine Goes.pre (fun t kt => XS.goto X0.here hx rfl (pc0 := 20) (pc' := 25) rfl (hb hby at_20) (by decide) (by decide) kt) ?_
      show Goes p e below s _ _ _ (s₁.setTop (mkF m 25 #[.val (.int p1), .val (.int p2), .val (.int (p2 &&& (3 : Int32))), .val (.int (2 : Int32)), .unset, .unset, .unset] []))
      refine Goes.pre (fun t kt => XS.iloadN X0.here hx rfl (hb hby at_25) rfl kt) ?_
      show Goes p e below s _ _ _ (s₁.setTop (mkF m 26 #[.val (.int p1), .val (.int p2), .val (.int (p2 &&& (3 : Int32))), .val (.int (2 : Int32)), .unset, .unset, .unset] [(.int (2 : Int32))]))
      obtain ⟨_, _, ⟨T23, L23, k23, n23⟩, -, X23, ⟨Lc23, hQ23, l23, y23, z23⟩, st23⟩ := Jvm.LawKit.callS X0 hx (y := (⟨"com/example/quantail/quantail/SketchFamily", "ofCode", "(I)Lcom/example/quantail/quantail/SketchFamily;"⟩ : MethodName)) hown (mvT hZ (hw _ (List.mem_of_getElem? (i := 0) rfl))) (mvT hZ (hw _ (List.mem_of_getElem? (i := 1) rfl))) (mvT hZ (hw _ (List.mem_of_getElem? (i := 2) rfl))) (mvT hZ (hw _ (List.mem_of_getElem? (i := 3) rfl))) (by decide) (backOf (W := 0) (rm1_2 l Z a0 hw [] (2 : Int32) va kv ka ra h0 n0 Z0 pf_S_com_example_quantail_quantail_SketchFamily__VALUES pf_V_va pf_E_va pf_F_ka_com_example_quantail_quantail_SketchFamily_code pf_F_ra_com_example_quantail_quantail_SketchFamily_code (rfl) X00) hZ (hw _ (List.mem_of_getElem? (i := 3) rfl)) (hw _ (List.mem_of_getElem? (i := 2) rfl)) (by decide) (by decide)) (g := (mkF m 26 #[.val (.int p1), .val (.int p2), .val (.int (p2 &&& (3 : Int32))), .val (.int (2 : Int32)), .unset, .unset, .unset] [(.int (2 : Int32))])) rfl (by rw [hml]; rfl) (argsL := [(.int (2 : Int32))]) (rest := []) (lenOf pd_2 rfl) rfl (by show 2 * 0 + _ ≤ _; exact Nat.le_of_eq rfl) (hb hby at_26) (fun _ _ => ⟨rfl, e0, (by decide : 0 + 1 ≤ _), (by decide : 0 + 2 ≤ _)⟩)
      dsimp only [Pt.U, Pt.locs, Pt.cells, Pt.slots] at X23 l23 y23 z23 st23 hQ23
      subst l23 y23 z23
      obtain ⟨rfl, Nq23, Kq23⟩ := hQ23
      refine Goes.pre st23 ?_
      have N23 := Fr.app N0 Nq23
      obtain ⟨h23, e23⟩ : ∃ z, T23.heap = z := ⟨_, rfl⟩
      rw [e23] at Kq23 
      have Z23 : n0 ≤ h23.size := Nat.le_trans Z0 Kq23.1
      have Od23 := X00.keep Kq23 all0
      show Goes p e below s _ _ _ (T23.setTop (mkF m 29 #[.val (.int p1), .val (.int p2), .val (.int (p2 &&& (3 : Int32))), .val (.int (2 : Int32)), .unset, .unset, .unset] [(.ref ra)]))
      refine Goes.pre (fun t kt => XS.astore X23.here hx rfl (hb hby at_29) rfl rfl (l' := #[.val (.int p1), .val (.int p2), .val (.int (p2 &&& (3 : Int32))), .val (.int (2 : Int32)), .val (.ref ra), .unset, .unset]) rfl kt) ?_
      show Goes p e below s _ _ _ (T23.setTop (mkF m 31 #[.val (.int p1), .val (.int p2), .val (.int (p2 &&& (3 : Int32))), .val (.int (2 : Int32)), .val (.ref ra), .unset, .unset] []))
      refine Goes.pre (fun t kt => XS.iloadN X23.here hx rfl (hb hby at_31) rfl kt) ?_
      show Goes p e below s _ _ _ (T23.setTop (mkF m 32 #[.val (.int p1), .val (.int p2), .val (.int (p2 &&& (3 : Int32))), .val (.int (2 : Int32)), .val (.ref ra), .unset, .unset] [(.int (2 : Int32))]))
      refine Goes.pre (fun t kt => XS.iconst X23.here hx rfl (hb hby at_32) kt) ?_
      show Goes p e below s _ _ _ (T23.setTop (mkF m 33 #[.val (.int p1), .val (.int p2), .val (.int (p2 &&& (3 : Int32))), .val (.int (2 : Int32)), .val (.ref ra), .unset, .unset] [(.int (1 : Int32)), (.int (2 : Int32))]))
      refine Goes.pre (fun t kt => XS.icmpYes X23.here hx rfl (pc0 := 33) (pc' := 44) rfl (hb hby at_33) rfl (Jvm.Free.XT.ii_ne_t ((by decide))) (by decide) (by decide) kt) ?_
      show Goes p e below s _ _ _ (T23.setTop (mkF m 44 #[.val (.int p1), .val (.int p2), .val (.int (p2 &&& (3 : Int32))), .val (.int (2 : Int32)), .val (.ref ra), .unset, .unset] []))
      refine Goes.pre (fun t kt => XS.iloadN X23.here hx rfl (hb hby at_44) rfl kt) ?_
      show Goes p e below s _ _ _ (T23.setTop (mkF m 45 #[.val (.int p1), .val (.int p2), .val (.int (p2 &&& (3 : Int32))), .val (.int (2 : Int32)), .val (.ref ra), .unset, .unset] [(.int (2 : Int32))]))
      refine Goes.pre (fun t kt => XS.iconst X23.here hx rfl (hb hby at_45) kt) ?_
      show Goes p e below s _ _ _ (T23.setTop (mkF m 46 #[.val (.int p1), .val (.int p2), .val (.int (p2 &&& (3 : Int32))), .val (.int (2 : Int32)), .val (.ref ra), .unset, .unset] [(.int (2 : Int32)), (.int (2 : Int32))]))
      refine Goes.pre (fun t kt => XS.icmpNo X23.here hx rfl (hb hby at_46) rfl (Jvm.Free.XT.ii_ne_f ((by decide))) kt) ?_
      show Goes p e below s _ _ _ (T23.setTop (mkF m 49 #[.val (.int p1), .val (.int p2), .val (.int (p2 &&& (3 : Int32))), .val (.int (2 : Int32)), .val (.ref ra), .unset, .unset] []))
      obtain ⟨T24, X24, e24, st24⟩ := getS2 X23 hx hZ hown (host := "") (Or.inl (hw _ (List.mem_of_getElem? (i := 29) rfl))) Via.refl e23 (pf_S_com_example_quantail_quantail_SketchFamily_REQ.ext Od23.2) (g := (mkF m 49 #[.val (.int p1), .val (.int p2), .val (.int (p2 &&& (3 : Int32))), .val (.int (2 : Int32)), .val (.ref ra), .unset, .unset] [])) rfl (hb hby at_49)
      refine Goes.pre st24 ?_
      show Goes p e below s _ _ _ (T24.setTop (mkF m 52 #[.val (.int p1), .val (.int p2), .val (.int (p2 &&& (3 : Int32))), .val (.int (2 : Int32)), .val (.ref ra), .unset, .unset] [(.ref ra)]))
      refine Goes.pre (fun t kt => XS.astore X24.here hx rfl (hb hby at_52) rfl rfl (l' := #[.val (.int p1), .val (.int p2), .val (.int (p2 &&& (3 : Int32))), .val (.int (2 : Int32)), .val (.ref ra), .val (.ref ra), .unset]) rfl kt) ?_
      show Goes p e below s _ _ _ (T24.setTop (mkF m 54 #[.val (.int p1), .val (.int p2), .val (.int (p2 &&& (3 : Int32))), .val (.int (2 : Int32)), .val (.ref ra), .val (.ref ra), .unset] []))
      refine Goes.pre (fun t kt => XS.goto X24.here hx rfl (pc0 := 54) (pc' := 60) rfl (hb hby at_54) (by decide) (by decide) kt) ?_
      show Goes p e below s _ _ _ (T24.setTop (mkF m 60 #[.val (.int p1), .val (.int p2), .val (.int (p2 &&& (3 : Int32))), .val (.int (2 : Int32)), .val (.ref ra), .val (.ref ra), .unset] []))
      obtain ⟨T25, X25, e25, st25⟩ := getS2 X24 hx hZ hown (host := "") (Or.inl (hw _ (List.mem_of_getElem? (i := 23) rfl))) Via.refl e24 (pf_S_com_example_quantail_quantail_SketchFamily_KLL.ext Od23.2) (g := (mkF m 60 #[.val (.int p1), .val (.int p2), .val (.int (p2 &&& (3 : Int32))), .val (.int (2 : Int32)), .val (.ref ra), .val (.ref ra), .unset] [])) rfl (hb hby at_60)
      refine Goes.pre st25 ?_
      show Goes p e below s _ _ _ (T25.setTop (mkF m 63 #[.val (.int p1), .val (.int p2), .val (.int (p2 &&& (3 : Int32))), .val (.int (2 : Int32)), .val (.ref ra), .val (.ref ra), .unset] [(.ref ka)]))
      have fc26 : Fld Z h23 ka "com/example/quantail/quantail/SketchFamily" "code" "I" (.int (1 : Int32)) := (pf_F_ka_com_example_quantail_quantail_SketchFamily_code.keep Kq23 nin0)
      have fc29 : Exa Z h23 ka "com/example/quantail/quantail/SketchFamily" := (pf_E_ka.keep Kq23)
      obtain ⟨cq28, kq28, qa28, qb28, qc28⟩ := isOf hZ e25 fc29
      obtain ⟨_, _, ⟨T27, L27, k27, n27⟩, -, X27, ⟨Lc27, hQ27, l27, y27, z27⟩, st27⟩ := X25.virtualBack hx (y := (⟨"com/example/quantail/quantail/SketchFamily", "code", "()I"⟩ : MethodName)) (z := (⟨"com/example/quantail/quantail/SketchFamily", "code", "()I"⟩ : MethodName)) hown (mvT hZ (hw _ (List.mem_of_getElem? (i := 24) rfl))) (mvT hZ (hw _ (List.mem_of_getElem? (i := 25) rfl))) (notFace_of_selects (args := #[]) (mvT hZ (hw _ (List.mem_of_getElem? (i := 27) rfl)))) (mvT hZ (hw _ (List.mem_of_getElem? (i := 27) rfl))) (mvT hZ (hw _ (List.mem_of_getElem? (i := 26) rfl))) (by decide) (backOf (W := 0) (rm3 l Z a0 hw [] ka (1 : Int32) h23 n0 Z23 fc26) hZ (hw _ (List.mem_of_getElem? (i := 28) rfl)) (hw _ (List.mem_of_getElem? (i := 2) rfl)) (by decide) (by decide)) qa28 qc28 (g := (mkF m 63 #[.val (.int p1), .val (.int p2), .val (.int (p2 &&& (3 : Int32))), .val (.int (2 : Int32)), .val (.ref ra), .val (.ref ra), .unset] [(.ref ka)])) rfl (by rw [hml]; rfl) (Steps.refl _) (argsL := []) (rest := []) (lenOf pd_3 rfl) rfl (by show 2 * 0 + _ ≤ _; exact Nat.le_of_eq rfl) (hb hby at_63) (fun _ _ => ⟨rfl, e25, (by decide : 1 + 0 ≤ _), (by decide : 2 + 0 ≤ _)⟩)
      dsimp only [Pt.U, Pt.locs, Pt.cells, Pt.slots] at X27 l27 y27 z27 st27 hQ27
      subst l27 y27 z27
      obtain ⟨rfl, Nq27, eq27⟩ := hQ27
      refine Goes.run st27 ?_
      have N27 := Fr.app N23 Nq27
      show Goes p e below s _ _ _ (T27.setTop (mkF m 66 #[.val (.int p1), .val (.int p2), .val (.int (p2 &&& (3 : Int32))), .val (.int (2 : Int32)), .val (.ref ra), .val (.ref ra), .unset] [(.int (1 : Int32))]))
      have fc30 : Arv Z h23 va kv (.object "com/example/quantail/quantail/SketchFamily") (2 : Int32) [(.ref ka), (.ref ra)] .null := (pf_V_va.keep Kq23 nin0)
      have fc31 : Exa Z h23 va "[Lcom/example/quantail/quantail/SketchFamily;" := (pf_E_va.keep Kq23)
      have fc32 : Fld Z h23 ra "com/example/quantail/quantail/SketchFamily" "code" "I" (.int (2 : Int32)) := (pf_F_ra_com_example_quantail_quantail_SketchFamily_code.keep Kq23 nin0)
      obtain ⟨_, _, ⟨T33, L33, k33, n33⟩, -, X33, ⟨Lc33, hQ33, l33, y33, z33⟩, st33⟩ := Jvm.LawKit.callS X27 hx (y := (⟨"com/example/quantail/quantail/SketchFamily", "ofCode", "(I)Lcom/example/quantail/quantail/SketchFamily;"⟩ : MethodName)) hown (mvT hZ (hw _ (List.mem_of_getElem? (i := 0) rfl))) (mvT hZ (hw _ (List.mem_of_getElem? (i := 1) rfl))) (mvT hZ (hw _ (List.mem_of_getElem? (i := 2) rfl))) (mvT hZ (hw _ (List.mem_of_getElem? (i := 3) rfl))) (by decide) (backOf (W := 0) (rm1_1 l Z a0 hw [] (1 : Int32) va kv ka ra h23 n0 Z23 pf_S_com_example_quantail_quantail_SketchFamily__VALUES fc30 fc31 fc26 fc32 (rfl) Od23) hZ (hw _ (List.mem_of_getElem? (i := 3) rfl)) (hw _ (List.mem_of_getElem? (i := 2) rfl)) (by decide) (by decide)) (g := (mkF m 66 #[.val (.int p1), .val (.int p2), .val (.int (p2 &&& (3 : Int32))), .val (.int (2 : Int32)), .val (.ref ra), .val (.ref ra), .unset] [(.int (1 : Int32))])) rfl (by rw [hml]; rfl) (argsL := [(.int (1 : Int32))]) (rest := []) (lenOf pd_2 rfl) rfl (by show 2 * 0 + _ ≤ _; exact Nat.le_of_eq rfl) (hb hby at_66) (fun _ _ => ⟨rfl, eq27, (by decide : 1 + 1 ≤ _), (by decide : 2 + 2 ≤ _)⟩)
      dsimp only [Pt.U, Pt.locs, Pt.cells, Pt.slots] at X33 l33 y33 z33 st33 hQ33
      subst l33 y33 z33
      obtain ⟨rfl, Nq33, Kq33⟩ := hQ33
      refine Goes.pre st33 ?_
      have N33 := Fr.app N27 Nq33
      obtain ⟨h33, e33⟩ : ∃ z, T33.heap = z := ⟨_, rfl⟩
      rw [e33] at Kq33 
      have Z33 : n0 ≤ h33.size := Nat.le_trans Z23 Kq33.1
      have Od33 := Od23.keep Kq33 all0
      show Goes p e below s _ _ _ (T33.setTop (mkF m 69 #[.val (.int p1), .val (.int p2), .val (.int (p2 &&& (3 : Int32))), .val (.int (2 : Int32)), .val (.ref ra), .val (.ref ra), .unset] [(.ref ka)]))
      obtain ⟨T34, X34, e34, st34⟩ := getS2 X33 hx hZ hown (host := "") (Or.inl (hw _ (List.mem_of_getElem? (i := 23) rfl))) Via.refl e33 (pf_S_com_example_quantail_quantail_SketchFamily_KLL.ext Od33.2) (g := (mkF m 69 #[.val (.int p1), .val (.int p2), .val (.int (p2 &&& (3 : Int32))), .val (.int (2 : Int32)), .val (.ref ra), .val (.ref ra), .unset] [(.ref ka)])) rfl (hb hby at_69)
      refine Goes.pre st34 ?_
      show Goes p e below s _ _ _ (T34.setTop (mkF m 72 #[.val (.int p1), .val (.int p2), .val (.int (p2 &&& (3 : Int32))), .val (.int (2 : Int32)), .val (.ref ra), .val (.ref ra), .unset] [(.ref ka), (.ref ka)]))
      refine Goes.pre (fun t kt => Jvm.RoadKit.acmp (g := (mkF m 72 #[.val (.int p1), .val (.int p2), .val (.int (p2 &&& (3 : Int32))), .val (.int (2 : Int32)), .val (.ref ra), .val (.ref ra), .unset] [(.ref ka), (.ref ka)])) X34 hx rfl rfl rfl (pc0 := 72) (pc' := 75) (same := true) rfl (hb hby at_72) rfl (decide_eq_true rfl) (by decide) (by decide) kt) ?_
      show Goes p e below s _ _ _ (T34.setTop (mkF m 75 #[.val (.int p1), .val (.int p2), .val (.int (p2 &&& (3 : Int32))), .val (.int (2 : Int32)), .val (.ref ra), .val (.ref ra), .unset] []))
      obtain ⟨T35, X35, e35, st35⟩ := getS2 X34 hx hZ hown (host := "") (Or.inl (hw _ (List.mem_of_getElem? (i := 29) rfl))) Via.refl e34 (pf_S_com_example_quantail_quantail_SketchFamily_REQ.ext Od33.2) (g := (mkF m 75 #[.val (.int p1), .val (.int p2), .val (.int (p2 &&& (3 : Int32))), .val (.int (2 : Int32)), .val (.ref ra), .val (.ref ra), .unset] [])) rfl (hb hby at_75)
      refine Goes.pre st35 ?_
      show Goes p e below s _ _ _ (T35.setTop (mkF m 78 #[.val (.int p1), .val (.int p2), .val (.int (p2 &&& (3 : Int32))), .val (.int (2 : Int32)), .val (.ref ra), .val (.ref ra), .unset] [(.ref ra)]))
      have fc36 : Fld Z h33 ra "com/example/quantail/quantail/SketchFamily" "code" "I" (.int (2 : Int32)) := (fc32.keep Kq33 nin0)
      have fc39 : Exa Z h33 ra "com/example/quantail/quantail/SketchFamily" := ((pf_E_ra.keep Kq23).keep Kq33)
      obtain ⟨cq38, kq38, qa38, qb38, qc38⟩ := isOf hZ e35 fc39
      obtain ⟨_, _, ⟨T37, L37, k37, n37⟩, -, X37, ⟨Lc37, hQ37, l37, y37, z37⟩, st37⟩ := X35.virtualBack hx (y := (⟨"com/example/quantail/quantail/SketchFamily", "code", "()I"⟩ : MethodName)) (z := (⟨"com/example/quantail/quantail/SketchFamily", "code", "()I"⟩ : MethodName)) hown (mvT hZ (hw _ (List.mem_of_getElem? (i := 24) rfl))) (mvT hZ (hw _ (List.mem_of_getElem? (i := 25) rfl))) (notFace_of_selects (args := #[]) (mvT hZ (hw _ (List.mem_of_getElem? (i := 27) rfl)))) (mvT hZ (hw _ (List.mem_of_getElem? (i := 27) rfl))) (mvT hZ (hw _ (List.mem_of_getElem? (i := 26) rfl))) (by decide) (backOf (W := 0) (rm3 l Z a0 hw [] ra (2 : Int32) h33 n0 Z33 fc36) hZ (hw _ (List.mem_of_getElem? (i := 28) rfl)) (hw _ (List.mem_of_getElem? (i := 2) rfl)) (by decide) (by decide)) qa38 qc38 (g := (mkF m 78 #[.val (.int p1), .val (.int p2), .val (.int (p2 &&& (3 : Int32))), .val (.int (2 : Int32)), .val (.ref ra), .val (.ref ra), .unset] [(.ref ra)])) rfl (by rw [hml]; rfl) (Steps.refl _) (argsL := []) (rest := []) (lenOf pd_3 rfl) rfl (by show 2 * 0 + _ ≤ _; exact Nat.le_of_eq rfl) (hb hby at_78) (fun _ _ => ⟨rfl, e35, (by decide : 2 + 0 ≤ _), (by decide : 4 + 0 ≤ _)⟩)
      dsimp only [Pt.U, Pt.locs, Pt.cells, Pt.slots] at X37 l37 y37 z37 st37 hQ37
      subst l37 y37 z37
      obtain ⟨rfl, Nq37, eq37⟩ := hQ37
      refine Goes.run st37 ?_
      have N37 := Fr.app N33 Nq37
      show Goes p e below s _ _ _ (T37.setTop (mkF m 81 #[.val (.int p1), .val (.int p2), .val (.int (p2 &&& (3 : Int32))), .val (.int (2 : Int32)), .val (.ref ra), .val (.ref ra), .unset] [(.int (2 : Int32))]))
      have fc40 : Arv Z h33 va kv (.object "com/example/quantail/quantail/SketchFamily") (2 : Int32) [(.ref ka), (.ref ra)] .null := (fc30.keep Kq33 nin0)
      have fc41 : Exa Z h33 va "[Lcom/example/quantail/quantail/SketchFamily;" := (fc31.keep Kq33)
      have fc42 : Fld Z h33 ka "com/example/quantail/quantail/SketchFamily" "code" "I" (.int (1 : Int32)) := (fc26.keep Kq33 nin0)
      obtain ⟨_, _, ⟨T43, L43, k43, n43⟩, -, X43, ⟨Lc43, hQ43, l43, y43, z43⟩, st43⟩ := Jvm.LawKit.callS X37 hx (y := (⟨"com/example/quantail/quantail/SketchFamily", "ofCode", "(I)Lcom/example/quantail/quantail/SketchFamily;"⟩ : MethodName)) hown (mvT hZ (hw _ (List.mem_of_getElem? (i := 0) rfl))) (mvT hZ (hw _ (List.mem_of_getElem? (i := 1) rfl))) (mvT hZ (hw _ (List.mem_of_getElem? (i := 2) rfl))) (mvT hZ (hw _ (List.mem_of_getElem? (i := 3) rfl))) (by decide) (backOf (W := 0) (rm1_2 l Z a0 hw [] (2 : Int32) va kv ka ra h33 n0 Z33 pf_S_com_example_quantail_quantail_SketchFamily__VALUES fc40 fc41 fc42 fc36 (rfl) Od33) hZ (hw _ (List.mem_of_getElem? (i := 3) rfl)) (hw _ (List.mem_of_getElem? (i := 2) rfl)) (by decide) (by decide)) (g := (mkF m 81 #[.val (.int p1), .val (.int p2), .val (.int (p2 &&& (3 : Int32))), .val (.int (2 : Int32)), .val (.ref ra), .val (.ref ra), .unset] [(.int (2 : Int32))])) rfl (by rw [hml]; rfl) (argsL := [(.int (2 : Int32))]) (rest := []) (lenOf pd_2 rfl) rfl (by show 2 * 0 + _ ≤ _; exact Nat.le_of_eq rfl) (hb hby at_81) (fun _ _ => ⟨rfl, eq37, (by decide : 2 + 1 ≤ _), (by decide : 4 + 2 ≤ _)⟩)
      dsimp only [Pt.U, Pt.locs, Pt.cells, Pt.slots] at X43 l43 y43 z43 st43 hQ43
      subst l43 y43 z43
      obtain ⟨rfl, Nq43, Kq43⟩ := hQ43
      refine Goes.pre st43 ?_
      have N43 := Fr.app N37 Nq43
      obtain ⟨h43, e43⟩ : ∃ z, T43.heap = z := ⟨_, rfl⟩
      rw [e43] at Kq43 
      have Z43 : n0 ≤ h43.size := Nat.le_trans Z33 Kq43.1
      have Od43 := Od33.keep Kq43 all0
      show Goes p e below s _ _ _ (T43.setTop (mkF m 84 #[.val (.int p1), .val (.int p2), .val (.int (p2 &&& (3 : Int32))), .val (.int (2 : Int32)), .val (.ref ra), .val (.ref ra), .unset] [(.ref ra)]))
      obtain ⟨T44, X44, e44, st44⟩ := getS2 X43 hx hZ hown (host := "") (Or.inl (hw _ (List.mem_of_getElem? (i := 29) rfl))) Via.refl e43 (pf_S_com_example_quantail_quantail_SketchFamily_REQ.ext Od43.2) (g := (mkF m 84 #[.val (.int p1), .val (.int p2), .val (.int (p2 &&& (3 : Int32))), .val (.int (2 : Int32)), .val (.ref ra), .val (.ref ra), .unset] [(.ref ra)])) rfl (hb hby at_84)
      refine Goes.pre st44 ?_
      show Goes p e below s _ _ _ (T44.setTop (mkF m 87 #[.val (.int p1), .val (.int p2), .val (.int (p2 &&& (3 : Int32))), .val (.int (2 : Int32)), .val (.ref ra), .val (.ref ra), .unset] [(.ref ra), (.ref ra)]))
      refine Goes.pre (fun t kt => Jvm.RoadKit.acmp (g := (mkF m 87 #[.val (.int p1), .val (.int p2), .val (.int (p2 &&& (3 : Int32))), .val (.int (2 : Int32)), .val (.ref ra), .val (.ref ra), .unset] [(.ref ra), (.ref ra)])) X44 hx rfl rfl rfl (pc0 := 87) (pc' := 90) (same := true) rfl (hb hby at_87) rfl (decide_eq_true rfl) (by decide) (by decide) kt) ?_
      show Goes p e below s _ _ _ (T44.setTop (mkF m 90 #[.val (.int p1), .val (.int p2), .val (.int (p2 &&& (3 : Int32))), .val (.int (2 : Int32)), .val (.ref ra), .val (.ref ra), .unset] []))
      refine Goes.pre (fun t kt => XS.iconst X44.here hx rfl (hb hby at_90) kt) ?_
      show Goes p e below s _ _ _ (T44.setTop (mkF m 91 #[.val (.int p1), .val (.int p2), .val (.int (p2 &&& (3 : Int32))), .val (.int (2 : Int32)), .val (.ref ra), .val (.ref ra), .unset] [(.int (1 : Int32))]))
      refine Goes.pre (fun t kt => XS.goto X44.here hx rfl (pc0 := 91) (pc' := 95) rfl (hb hby at_91) (by decide) (by decide) kt) ?_
      show Goes p e below s _ _ _ (T44.setTop (mkF m 95 #[.val (.int p1), .val (.int p2), .val (.int (p2 &&& (3 : Int32))), .val (.int (2 : Int32)), .val (.ref ra), .val (.ref ra), .unset] [(.int (1 : Int32))]))
      refine Goes.pre (fun t kt => XS.istore X44.here hx rfl (hb hby at_95) rfl (l' := #[.val (.int p1), .val (.int p2), .val (.int (p2 &&& (3 : Int32))), .val (.int (2 : Int32)), .val (.ref ra), .val (.ref ra), .val (.int (1 : Int32))]) rfl kt) ?_
      show Goes p e below s _ _ _ (T44.setTop (mkF m 97 #[.val (.int p1), .val (.int p2), .val (.int (p2 &&& (3 : Int32))), .val (.int (2 : Int32)), .val (.ref ra), .val (.ref ra), .val (.int (1 : Int32))] []))
      refine Goes.pre (fun t kt => XS.aload X44.here hx rfl (hb hby at_97) rfl rfl kt) ?_
      show Goes p e below s _ _ _ (T44.setTop (mkF m 99 #[.val (.int p1), .val (.int p2), .val (.int (p2 &&& (3 : Int32))), .val (.int (2 : Int32)), .val (.ref ra), .val (.ref ra), .val (.int (1 : Int32))] [(.ref ra)]))
      refine Goes.pre (fun t kt => XS.aload X44.here hx rfl (hb hby at_99) rfl rfl kt) ?_
      show Goes p e below s _ _ _ (T44.setTop (mkF m 101 #[.val (.int p1), .val (.int p2), .val (.int (p2 &&& (3 : Int32))), .val (.int (2 : Int32)), .val (.ref ra), .val (.ref ra), .val (.int (1 : Int32))] [(.ref ra), (.ref ra)]))
      refine Goes.pre (fun t kt => Jvm.RoadKit.acmp (g := (mkF m 101 #[.val (.int p1), .val (.int p2), .val (.int (p2 &&& (3 : Int32))), .val (.int (2 : Int32)), .val (.ref ra), .val (.ref ra), .val (.int (1 : Int32))] [(.ref ra), (.ref ra)])) X44 hx rfl rfl rfl (pc0 := 101) (pc' := 104) (same := true) rfl (hb hby at_101) rfl (decide_eq_true rfl) (by decide) (by decide) kt) ?_
      show Goes p e below s _ _ _ (T44.setTop (mkF m 104 #[.val (.int p1), .val (.int p2), .val (.int (p2 &&& (3 : Int32))), .val (.int (2 : Int32)), .val (.ref ra), .val (.ref ra), .val (.int (1 : Int32))] []))
      refine Goes.pre (fun t kt => XS.iload X44.here hx rfl (hb hby at_104) rfl kt) ?_
      show Goes p e below s _ _ _ (T44.setTop (mkF m 106 #[.val (.int p1), .val (.int p2), .val (.int (p2 &&& (3 : Int32))), .val (.int (2 : Int32)), .val (.ref ra), .val (.ref ra), .val (.int (1 : Int32))] [(.int (1 : Int32))]))
      refine Goes.pre (fun t kt => XS.ifNo X44.here hx rfl (hb hby at_106) rfl (Jvm.Free.XT.i0_eq_f ((by decide))) kt) ?_
      show Goes p e below s _ _ _ (T44.setTop (mkF m 109 #[.val (.int p1), .val (.int p2), .val (.int (p2 &&& (3 : Int32))), .val (.int (2 : Int32)), .val (.ref ra), .val (.ref ra), .val (.int (1 : Int32))] []))
      refine Goes.pre (fun t kt => XS.iconst X44.here hx rfl (hb hby at_109) kt) ?_
      show Goes p e below s _ _ _ (T44.setTop (mkF m 110 #[.val (.int p1), .val (.int p2), .val (.int (p2 &&& (3 : Int32))), .val (.int (2 : Int32)), .val (.ref ra), .val (.ref ra), .val (.int (1 : Int32))] [(.int (1 : Int32))]))
      refine Goes.pre (fun t kt => XS.goto X44.here hx rfl (pc0 := 110) (pc' := 114) rfl (hb hby at_110) (by decide) (by decide) kt) ?_
      show Goes p e below s _ _ _ (T44.setTop (mkF m 114 #[.val (.int p1), .val (.int p2), .val (.int (p2 &&& (3 : Int32))), .val (.int (2 : Int32)), .val (.ref ra), .val (.ref ra), .val (.int (1 : Int32))] [(.int (1 : Int32))]))
      refine Goes.ret X44 (some (.int (1 : Int32))) (fun h => by rw [Bd.returns] at h; cases h) (BodyLoose.notSynchronized Bd) (by decide) (by decide) (fun fs hr => retN X44 hx (t := .boolean) Bd.returns (by simp) (hb hby at_114) hr) ?_
      show Q_rm0 Z p1 p2 va kv ka ra h0 n0 _ T44.heap _
      rw [e44]
      exact ⟨rfl, N43⟩
    · refine Goes.pre (fun t kt => XS.icmpYes X0.here hx rfl (pc0 := 15) (pc' := 23) rfl (hb hby at_15) rfl (Jvm.Free.XT.ii_ne_t (hc15)) (by decide) (by decide) kt) ?_
      show Goes p e below s _ _ _ (s₁.setTop (mkF m 23 #[.val (.int p1), .val (.int p2), .val (.int (p2 &&& (3 : Int32))), .unset, .unset, .unset, .unset] []))
      refine Goes.pre (fun t kt => XS.iloadN X0.here hx rfl (hb hby at_23) rfl kt) ?_
      show Goes p e below s _ _ _ (s₁.setTop (mkF m 24 #[.val (.int p1), .val (.int p2), .val (.int (p2 &&& (3 : Int32))), .unset, .unset, .unset, .unset] [(.int p1)]))
      refine Goes.pre (fun t kt => XS.istoreN X0.here hx rfl (hb hby at_24) rfl (l' := #[.val (.int p1), .val (.int p2), .val (.int (p2 &&& (3 : Int32))), .val (.int p1), .unset, .unset, .unset]) rfl kt) ?_
      show Goes p e below s _ _ _ (s₁.setTop (mkF m 25 #[.val (.int p1), .val (.int p2), .val (.int (p2 &&& (3 : Int32))), .val (.int p1), .unset, .unset, .unset] []))
      refine Goes.pre (fun t kt => XS.iloadN X0.here hx rfl (hb hby at_25) rfl kt) ?_
      show Goes p e below s _ _ _ (s₁.setTop (mkF m 26 #[.val (.int p1), .val (.int p2), .val (.int (p2 &&& (3 : Int32))), .val (.int p1), .unset, .unset, .unset] [(.int p1)]))
      by_cases hA : p1 = (1 : Int32)
      · obtain ⟨_, _, ⟨T45, L45, k45, n45⟩, -, X45, ⟨Lc45, hQ45, l45, y45, z45⟩, st45⟩ := Jvm.LawKit.callS X0 hx (y := (⟨"com/example/quantail/quantail/SketchFamily", "ofCode", "(I)Lcom/example/quantail/quantail/SketchFamily;"⟩ : MethodName)) hown (mvT hZ (hw _ (List.mem_of_getElem? (i := 0) rfl))) (mvT hZ (hw _ (List.mem_of_getElem? (i := 1) rfl))) (mvT hZ (hw _ (List.mem_of_getElem? (i := 2) rfl))) (mvT hZ (hw _ (List.mem_of_getElem? (i := 3) rfl))) (by decide) (backOf (W := 0) (rm1_1 l Z a0 hw [] p1 va kv ka ra h0 n0 Z0 pf_S_com_example_quantail_quantail_SketchFamily__VALUES pf_V_va pf_E_va pf_F_ka_com_example_quantail_quantail_SketchFamily_code pf_F_ra_com_example_quantail_quantail_SketchFamily_code (hA) X00) hZ (hw _ (List.mem_of_getElem? (i := 3) rfl)) (hw _ (List.mem_of_getElem? (i := 2) rfl)) (by decide) (by decide)) (g := (mkF m 26 #[.val (.int p1), .val (.int p2), .val (.int (p2 &&& (3 : Int32))), .val (.int p1), .unset, .unset, .unset] [(.int p1)])) rfl (by rw [hml]; rfl) (argsL := [(.int p1)]) (rest := []) (lenOf pd_2 rfl) rfl (by show 2 * 0 + _ ≤ _; exact Nat.le_of_eq rfl) (hb hby at_26) (fun _ _ => ⟨rfl, e0, (by decide : 0 + 1 ≤ _), (by decide : 0 + 2 ≤ _)⟩)
        dsimp only [Pt.U, Pt.locs, Pt.cells, Pt.slots] at X45 l45 y45 z45 st45 hQ45
        subst l45 y45 z45
        obtain ⟨rfl, Nq45, Kq45⟩ := hQ45
        refine Goes.pre st45 ?_
        have N45 := Fr.app N0 Nq45
        obtain ⟨h45, e45⟩ : ∃ z, T45.heap = z := ⟨_, rfl⟩
        rw [e45] at Kq45 
        have Z45 : n0 ≤ h45.size := Nat.le_trans Z0 Kq45.1
        have Od45 := X00.keep Kq45 all0
        show Goes p e below s _ _ _ (T45.setTop (mkF m 29 #[.val (.int p1), .val (.int p2), .val (.int (p2 &&& (3 : Int32))), .val (.int p1), .unset, .unset, .unset] [(.ref ka)]))
        refine Goes.pre (fun t kt => XS.astore X45.here hx rfl (hb hby at_29) rfl rfl (l' := #[.val (.int p1), .val (.int p2), .val (.int (p2 &&& (3 : Int32))), .val (.int p1), .val (.ref ka), .unset, .unset]) rfl kt) ?_
        show Goes p e below s _ _ _ (T45.setTop (mkF m 31 #[.val (.int p1), .val (.int p2), .val (.int (p2 &&& (3 : Int32))), .val (.int p1), .val (.ref ka), .unset, .unset] []))
        refine Goes.pre (fun t kt => XS.iloadN X45.here hx rfl (hb hby at_31) rfl kt) ?_
        show Goes p e below s _ _ _ (T45.setTop (mkF m 32 #[.val (.int p1), .val (.int p2), .val (.int (p2 &&& (3 : Int32))), .val (.int p1), .val (.ref ka), .unset, .unset] [(.int p1)]))
        refine Goes.pre (fun t kt => XS.iconst X45.here hx rfl (hb hby at_32) kt) ?_
        show Goes p e below s _ _ _ (T45.setTop (mkF m 33 #[.val (.int p1), .val (.int p2), .val (.int (p2 &&& (3 : Int32))), .val (.int p1), .val (.ref ka), .unset, .unset] [(.int (1 : Int32)), (.int p1)]))
        refine Goes.pre (fun t kt => XS.icmpNo X45.here hx rfl (hb hby at_33) rfl (Jvm.Free.XT.ii_ne_f (hA)) kt) ?_
        show Goes p e below s _ _ _ (T45.setTop (mkF m 36 #[.val (.int p1), .val (.int p2), .val (.int (p2 &&& (3 : Int32))), .val (.int p1), .val (.ref ka), .unset, .unset] []))
        obtain ⟨T46, X46, e46, st46⟩ := getS2 X45 hx hZ hown (host := "") (Or.inl (hw _ (List.mem_of_getElem? (i := 23) rfl))) Via.refl e45 (pf_S_com_example_quantail_quantail_SketchFamily_KLL.ext Od45.2) (g := (mkF m 36 #[.val (.int p1), .val (.int p2), .val (.int (p2 &&& (3 : Int32))), .val (.int p1), .val (.ref ka), .unset, .unset] [])) rfl (hb hby at_36)
        refine Goes.pre st46 ?_
        show Goes p e below s _ _ _ (T46.setTop (mkF m 39 #[.val (.int p1), .val (.int p2), .val (.int (p2 &&& (3 : Int32))), .val (.int p1), .val (.ref ka), .unset, .unset] [(.ref ka)]))
        refine Goes.pre (fun t kt => XS.astore X46.here hx rfl (hb hby at_39) rfl rfl (l' := #[.val (.int p1), .val (.int p2), .val (.int (p2 &&& (3 : Int32))), .val (.int p1), .val (.ref ka), .val (.ref ka), .unset]) rfl kt) ?_
        show Goes p e below s _ _ _ (T46.setTop (mkF m 41 #[.val (.int p1), .val (.int p2), .val (.int (p2 &&& (3 : Int32))), .val (.int p1), .val (.ref ka), .val (.ref ka), .unset] []))
        refine Goes.pre (fun t kt => XS.goto X46.here hx rfl (pc0 := 41) (pc' := 60) rfl (hb hby at_41) (by decide) (by decide) kt) ?_
        show Goes p e below s _ _ _ (T46.setTop (mkF m 60 #[.val (.int p1), .val (.int p2), .val (.int (p2 &&& (3 : Int32))), .val (.int p1), .val (.ref ka), .val (.ref ka), .unset] []))
        obtain ⟨T47, X47, e47, st47⟩ := getS2 X46 hx hZ hown (host := "") (Or.inl (hw _ (List.mem_of_getElem? (i := 23) rfl))) Via.refl e46 (pf_S_com_example_quantail_quantail_SketchFamily_KLL.ext Od45.2) (g := (mkF m 60 #[.val (.int p1), .val (.int p2), .val (.int (p2 &&& (3 : Int32))), .val (.int p1), .val (.ref ka), .val (.ref ka), .unset] [])) rfl (hb hby at_60)
        refine Goes.pre st47 ?_
        show Goes p e below s _ _ _ (T47.setTop (mkF m 63 #[.val (.int p1), .val (.int p2), .val (.int (p2 &&& (3 : Int32))), .val (.int p1), .val (.ref ka), .val (.ref ka), .unset] [(.ref ka)]))
        have fc48 : Fld Z h45 ka "com/example/quantail/quantail/SketchFamily" "code" "I" (.int (1 : Int32)) := (pf_F_ka_com_example_quantail_quantail_SketchFamily_code.keep Kq45 nin0)
        have fc51 : Exa Z h45 ka "com/example/quantail/quantail/SketchFamily" := (pf_E_ka.keep Kq45)
        obtain ⟨cq50, kq50, qa50, qb50, qc50⟩ := isOf hZ e47 fc51
        obtain ⟨_, _, ⟨T49, L49, k49, n49⟩, -, X49, ⟨Lc49, hQ49, l49, y49, z49⟩, st49⟩ := X47.virtualBack hx (y := (⟨"com/example/quantail/quantail/SketchFamily", "code", "()I"⟩ : MethodName)) (z := (⟨"com/example/quantail/quantail/SketchFamily", "code", "()I"⟩ : MethodName)) hown (mvT hZ (hw _ (List.mem_of_getElem? (i := 24) rfl))) (mvT hZ (hw _ (List.mem_of_getElem? (i := 25) rfl))) (notFace_of_selects (args := #[]) (mvT hZ (hw _ (List.mem_of_getElem? (i := 27) rfl)))) (mvT hZ (hw _ (List.mem_of_getElem? (i := 27) rfl))) (mvT hZ (hw _ (List.mem_of_getElem? (i := 26) rfl))) (by decide) (backOf (W := 0) (rm3 l Z a0 hw [] ka (1 : Int32) h45 n0 Z45 fc48) hZ (hw _ (List.mem_of_getElem? (i := 28) rfl)) (hw _ (List.mem_of_getElem? (i := 2) rfl)) (by decide) (by decide)) qa50 qc50 (g := (mkF m 63 #[.val (.int p1), .val (.int p2), .val (.int (p2 &&& (3 : Int32))), .val (.int p1), .val (.ref ka), .val (.ref ka), .unset] [(.ref ka)])) rfl (by rw [hml]; rfl) (Steps.refl _) (argsL := []) (rest := []) (lenOf pd_3 rfl) rfl (by show 2 * 0 + _ ≤ _; exact Nat.le_of_eq rfl) (hb hby at_63) (fun _ _ => ⟨rfl, e47, (by decide : 1 + 0 ≤ _), (by decide : 2 + 0 ≤ _)⟩)
        dsimp only [Pt.U, Pt.locs, Pt.cells, Pt.slots] at X49 l49 y49 z49 st49 hQ49
        subst l49 y49 z49
        obtain ⟨rfl, Nq49, eq49⟩ := hQ49
        refine Goes.run st49 ?_
        have N49 := Fr.app N45 Nq49
        show Goes p e below s _ _ _ (T49.setTop (mkF m 66 #[.val (.int p1), .val (.int p2), .val (.int (p2 &&& (3 : Int32))), .val (.int p1), .val (.ref ka), .val (.ref ka), .unset] [(.int (1 : Int32))]))
        have fc52 : Arv Z h45 va kv (.object "com/example/quantail/quantail/SketchFamily") (2 : Int32) [(.ref ka), (.ref ra)] .null := (pf_V_va.keep Kq45 nin0)
        have fc53 : Exa Z h45 va "[Lcom/example/quantail/quantail/SketchFamily;" := (pf_E_va.keep Kq45)
        have fc54 : Fld Z h45 ra "com/example/quantail/quantail/SketchFamily" "code" "I" (.int (2 : Int32)) := (pf_F_ra_com_example_quantail_quantail_SketchFamily_code.keep Kq45 nin0)
        obtain ⟨_, _, ⟨T55, L55, k55, n55⟩, -, X55, ⟨Lc55, hQ55, l55, y55, z55⟩, st55⟩ := Jvm.LawKit.callS X49 hx (y := (⟨"com/example/quantail/quantail/SketchFamily", "ofCode", "(I)Lcom/example/quantail/quantail/SketchFamily;"⟩ : MethodName)) hown (mvT hZ (hw _ (List.mem_of_getElem? (i := 0) rfl))) (mvT hZ (hw _ (List.mem_of_getElem? (i := 1) rfl))) (mvT hZ (hw _ (List.mem_of_getElem? (i := 2) rfl))) (mvT hZ (hw _ (List.mem_of_getElem? (i := 3) rfl))) (by decide) (backOf (W := 0) (rm1_1 l Z a0 hw [] (1 : Int32) va kv ka ra h45 n0 Z45 pf_S_com_example_quantail_quantail_SketchFamily__VALUES fc52 fc53 fc48 fc54 (rfl) Od45) hZ (hw _ (List.mem_of_getElem? (i := 3) rfl)) (hw _ (List.mem_of_getElem? (i := 2) rfl)) (by decide) (by decide)) (g := (mkF m 66 #[.val (.int p1), .val (.int p2), .val (.int (p2 &&& (3 : Int32))), .val (.int p1), .val (.ref ka), .val (.ref ka), .unset] [(.int (1 : Int32))])) rfl (by rw [hml]; rfl) (argsL := [(.int (1 : Int32))]) (rest := []) (lenOf pd_2 rfl) rfl (by show 2 * 0 + _ ≤ _; exact Nat.le_of_eq rfl) (hb hby at_66) (fun _ _ => ⟨rfl, eq49, (by decide : 1 + 1 ≤ _), (by decide : 2 + 2 ≤ _)⟩)
        dsimp only [Pt.U, Pt.locs, Pt.cells, Pt.slots] at X55 l55 y55 z55 st55 hQ55
        subst l55 y55 z55
        obtain ⟨rfl, Nq55, Kq55⟩ := hQ55
        refine Goes.pre st55 ?_
        have N55 := Fr.app N49 Nq55
        obtain ⟨h55, e55⟩ : ∃ z, T55.heap = z := ⟨_, rfl⟩
        rw [e55] at Kq55 
        have Z55 : n0 ≤ h55.size := Nat.le_trans Z45 Kq55.1
        have Od55 := Od45.keep Kq55 all0
        show Goes p e below s _ _ _ (T55.setTop (mkF m 69 #[.val (.int p1), .val (.int p2), .val (.int (p2 &&& (3 : Int32))), .val (.int p1), .val (.ref ka), .val (.ref ka), .unset] [(.ref ka)]))
        obtain ⟨T56, X56, e56, st56⟩ := getS2 X55 hx hZ hown (host := "") (Or.inl (hw _ (List.mem_of_getElem? (i := 23) rfl))) Via.refl e55 (pf_S_com_example_quantail_quantail_SketchFamily_KLL.ext Od55.2) (g := (mkF m 69 #[.val (.int p1), .val (.int p2), .val (.int (p2 &&& (3 : Int32))), .val (.int p1), .val (.ref ka), .val (.ref ka), .unset] [(.ref ka)])) rfl (hb hby at_69)
        refine Goes.pre st56 ?_
        show Goes p e below s _ _ _ (T56.setTop (mkF m 72 #[.val (.int p1), .val (.int p2), .val (.int (p2 &&& (3 : Int32))), .val (.int p1), .val (.ref ka), .val (.ref ka), .unset] [(.ref ka), (.ref ka)]))
        refine Goes.pre (fun t kt => Jvm.RoadKit.acmp (g := (mkF m 72 #[.val (.int p1), .val (.int p2), .val (.int (p2 &&& (3 : Int32))), .val (.int p1), .val (.ref ka), .val (.ref ka), .unset] [(.ref ka), (.ref ka)])) X56 hx rfl rfl rfl (pc0 := 72) (pc' := 75) (same := true) rfl (hb hby at_72) rfl (decide_eq_true rfl) (by decide) (by decide) kt) ?_
        show Goes p e below s _ _ _ (T56.setTop (mkF m 75 #[.val (.int p1), .val (.int p2), .val (.int (p2 &&& (3 : Int32))), .val (.int p1), .val (.ref ka), .val (.ref ka), .unset] []))
        obtain ⟨T57, X57, e57, st57⟩ := getS2 X56 hx hZ hown (host := "") (Or.inl (hw _ (List.mem_of_getElem? (i := 29) rfl))) Via.refl e56 (pf_S_com_example_quantail_quantail_SketchFamily_REQ.ext Od55.2) (g := (mkF m 75 #[.val (.int p1), .val (.int p2), .val (.int (p2 &&& (3 : Int32))), .val (.int p1), .val (.ref ka), .val (.ref ka), .unset] [])) rfl (hb hby at_75)
        refine Goes.pre st57 ?_
        show Goes p e below s _ _ _ (T57.setTop (mkF m 78 #[.val (.int p1), .val (.int p2), .val (.int (p2 &&& (3 : Int32))), .val (.int p1), .val (.ref ka), .val (.ref ka), .unset] [(.ref ra)]))
        have fc58 : Fld Z h55 ra "com/example/quantail/quantail/SketchFamily" "code" "I" (.int (2 : Int32)) := (fc54.keep Kq55 nin0)
        have fc61 : Exa Z h55 ra "com/example/quantail/quantail/SketchFamily" := ((pf_E_ra.keep Kq45).keep Kq55)
        obtain ⟨cq60, kq60, qa60, qb60, qc60⟩ := isOf hZ e57 fc61
        obtain ⟨_, _, ⟨T59, L59, k59, n59⟩, -, X59, ⟨Lc59, hQ59, l59, y59, z59⟩, st59⟩ := X57.virtualBack hx (y := (⟨"com/example/quantail/quantail/SketchFamily", "code", "()I"⟩ : MethodName)) (z := (⟨"com/example/quantail/quantail/SketchFamily", "code", "()I"⟩ : MethodName)) hown (mvT hZ (hw _ (List.mem_of_getElem? (i := 24) rfl))) (mvT hZ (hw _ (List.mem_of_getElem? (i := 25) rfl))) (notFace_of_selects (args := #[]) (mvT hZ (hw _ (List.mem_of_getElem? (i := 27) rfl)))) (mvT hZ (hw _ (List.mem_of_getElem? (i := 27) rfl))) (mvT hZ (hw _ (List.mem_of_getElem? (i := 26) rfl))) (by decide) (backOf (W := 0) (rm3 l Z a0 hw [] ra (2 : Int32) h55 n0 Z55 fc58) hZ (hw _ (List.mem_of_getElem? (i := 28) rfl)) (hw _ (List.mem_of_getElem? (i := 2) rfl)) (by decide) (by decide)) qa60 qc60 (g := (mkF m 78 #[.val (.int p1), .val (.int p2), .val (.int (p2 &&& (3 : Int32))), .val (.int p1), .val (.ref ka), .val (.ref ka), .unset] [(.ref ra)])) rfl (by rw [hml]; rfl) (Steps.refl _) (argsL := []) (rest := []) (lenOf pd_3 rfl) rfl (by show 2 * 0 + _ ≤ _; exact Nat.le_of_eq rfl) (hb hby at_78) (fun _ _ => ⟨rfl, e57, (by decide : 2 + 0 ≤ _), (by decide : 4 + 0 ≤ _)⟩)
        dsimp only [Pt.U, Pt.locs, Pt.cells, Pt.slots] at X59 l59 y59 z59 st59 hQ59
        subst l59 y59 z59
        obtain ⟨rfl, Nq59, eq59⟩ := hQ59
        refine Goes.run st59 ?_
        have N59 := Fr.app N55 Nq59
        show Goes p e below s _ _ _ (T59.setTop (mkF m 81 #[.val (.int p1), .val (.int p2), .val (.int (p2 &&& (3 : Int32))), .val (.int p1), .val (.ref ka), .val (.ref ka), .unset] [(.int (2 : Int32))]))
        have fc62 : Arv Z h55 va kv (.object "com/example/quantail/quantail/SketchFamily") (2 : Int32) [(.ref ka), (.ref ra)] .null := (fc52.keep Kq55 nin0)
        have fc63 : Exa Z h55 va "[Lcom/example/quantail/quantail/SketchFamily;" := (fc53.keep Kq55)
        have fc64 : Fld Z h55 ka "com/example/quantail/quantail/SketchFamily" "code" "I" (.int (1 : Int32)) := (fc48.keep Kq55 nin0)
        obtain ⟨_, _, ⟨T65, L65, k65, n65⟩, -, X65, ⟨Lc65, hQ65, l65, y65, z65⟩, st65⟩ := Jvm.LawKit.callS X59 hx (y := (⟨"com/example/quantail/quantail/SketchFamily", "ofCode", "(I)Lcom/example/quantail/quantail/SketchFamily;"⟩ : MethodName)) hown (mvT hZ (hw _ (List.mem_of_getElem? (i := 0) rfl))) (mvT hZ (hw _ (List.mem_of_getElem? (i := 1) rfl))) (mvT hZ (hw _ (List.mem_of_getElem? (i := 2) rfl))) (mvT hZ (hw _ (List.mem_of_getElem? (i := 3) rfl))) (by decide) (backOf (W := 0) (rm1_2 l Z a0 hw [] (2 : Int32) va kv ka ra h55 n0 Z55 pf_S_com_example_quantail_quantail_SketchFamily__VALUES fc62 fc63 fc64 fc58 (rfl) Od55) hZ (hw _ (List.mem_of_getElem? (i := 3) rfl)) (hw _ (List.mem_of_getElem? (i := 2) rfl)) (by decide) (by decide)) (g := (mkF m 81 #[.val (.int p1), .val (.int p2), .val (.int (p2 &&& (3 : Int32))), .val (.int p1), .val (.ref ka), .val (.ref ka), .unset] [(.int (2 : Int32))])) rfl (by rw [hml]; rfl) (argsL := [(.int (2 : Int32))]) (rest := []) (lenOf pd_2 rfl) rfl (by show 2 * 0 + _ ≤ _; exact Nat.le_of_eq rfl) (hb hby at_81) (fun _ _ => ⟨rfl, eq59, (by decide : 2 + 1 ≤ _), (by decide : 4 + 2 ≤ _)⟩)
        dsimp only [Pt.U, Pt.locs, Pt.cells, Pt.slots] at X65 l65 y65 z65 st65 hQ65
        subst l65 y65 z65
        obtain ⟨rfl, Nq65, Kq65⟩ := hQ65
        refine Goes.pre st65 ?_
        have N65 := Fr.app N59 Nq65
        obtain ⟨h65, e65⟩ : ∃ z, T65.heap = z := ⟨_, rfl⟩
        rw [e65] at Kq65 
        have Z65 : n0 ≤ h65.size := Nat.le_trans Z55 Kq65.1
        have Od65 := Od55.keep Kq65 all0
        show Goes p e below s _ _ _ (T65.setTop (mkF m 84 #[.val (.int p1), .val (.int p2), .val (.int (p2 &&& (3 : Int32))), .val (.int p1), .val (.ref ka), .val (.ref ka), .unset] [(.ref ra)]))
        obtain ⟨T66, X66, e66, st66⟩ := getS2 X65 hx hZ hown (host := "") (Or.inl (hw _ (List.mem_of_getElem? (i := 29) rfl))) Via.refl e65 (pf_S_com_example_quantail_quantail_SketchFamily_REQ.ext Od65.2) (g := (mkF m 84 #[.val (.int p1), .val (.int p2), .val (.int (p2 &&& (3 : Int32))), .val (.int p1), .val (.ref ka), .val (.ref ka), .unset] [(.ref ra)])) rfl (hb hby at_84)
        refine Goes.pre st66 ?_
        show Goes p e below s _ _ _ (T66.setTop (mkF m 87 #[.val (.int p1), .val (.int p2), .val (.int (p2 &&& (3 : Int32))), .val (.int p1), .val (.ref ka), .val (.ref ka), .unset] [(.ref ra), (.ref ra)]))
        refine Goes.pre (fun t kt => Jvm.RoadKit.acmp (g := (mkF m 87 #[.val (.int p1), .val (.int p2), .val (.int (p2 &&& (3 : Int32))), .val (.int p1), .val (.ref ka), .val (.ref ka), .unset] [(.ref ra), (.ref ra)])) X66 hx rfl rfl rfl (pc0 := 87) (pc' := 90) (same := true) rfl (hb hby at_87) rfl (decide_eq_true rfl) (by decide) (by decide) kt) ?_
        show Goes p e below s _ _ _ (T66.setTop (mkF m 90 #[.val (.int p1), .val (.int p2), .val (.int (p2 &&& (3 : Int32))), .val (.int p1), .val (.ref ka), .val (.ref ka), .unset] []))
        refine Goes.pre (fun t kt => XS.iconst X66.here hx rfl (hb hby at_90) kt) ?_
        show Goes p e below s _ _ _ (T66.setTop (mkF m 91 #[.val (.int p1), .val (.int p2), .val (.int (p2 &&& (3 : Int32))), .val (.int p1), .val (.ref ka), .val (.ref ka), .unset] [(.int (1 : Int32))]))
        refine Goes.pre (fun t kt => XS.goto X66.here hx rfl (pc0 := 91) (pc' := 95) rfl (hb hby at_91) (by decide) (by decide) kt) ?_
        show Goes p e below s _ _ _ (T66.setTop (mkF m 95 #[.val (.int p1), .val (.int p2), .val (.int (p2 &&& (3 : Int32))), .val (.int p1), .val (.ref ka), .val (.ref ka), .unset] [(.int (1 : Int32))]))
        refine Goes.pre (fun t kt => XS.istore X66.here hx rfl (hb hby at_95) rfl (l' := #[.val (.int p1), .val (.int p2), .val (.int (p2 &&& (3 : Int32))), .val (.int p1), .val (.ref ka), .val (.ref ka), .val (.int (1 : Int32))]) rfl kt) ?_
        show Goes p e below s _ _ _ (T66.setTop (mkF m 97 #[.val (.int p1), .val (.int p2), .val (.int (p2 &&& (3 : Int32))), .val (.int p1), .val (.ref ka), .val (.ref ka), .val (.int (1 : Int32))] []))
        refine Goes.pre (fun t kt => XS.aload X66.here hx rfl (hb hby at_97) rfl rfl kt) ?_
        show Goes p e below s _ _ _ (T66.setTop (mkF m 99 #[.val (.int p1), .val (.int p2), .val (.int (p2 &&& (3 : Int32))), .val (.int p1), .val (.ref ka), .val (.ref ka), .val (.int (1 : Int32))] [(.ref ka)]))
        refine Goes.pre (fun t kt => XS.aload X66.here hx rfl (hb hby at_99) rfl rfl kt) ?_
        show Goes p e below s _ _ _ (T66.setTop (mkF m 101 #[.val (.int p1), .val (.int p2), .val (.int (p2 &&& (3 : Int32))), .val (.int p1), .val (.ref ka), .val (.ref ka), .val (.int (1 : Int32))] [(.ref ka), (.ref ka)]))
        refine Goes.pre (fun t kt => Jvm.RoadKit.acmp (g := (mkF m 101 #[.val (.int p1), .val (.int p2), .val (.int (p2 &&& (3 : Int32))), .val (.int p1), .val (.ref ka), .val (.ref ka), .val (.int (1 : Int32))] [(.ref ka), (.ref ka)])) X66 hx rfl rfl rfl (pc0 := 101) (pc' := 104) (same := true) rfl (hb hby at_101) rfl (decide_eq_true rfl) (by decide) (by decide) kt) ?_
        show Goes p e below s _ _ _ (T66.setTop (mkF m 104 #[.val (.int p1), .val (.int p2), .val (.int (p2 &&& (3 : Int32))), .val (.int p1), .val (.ref ka), .val (.ref ka), .val (.int (1 : Int32))] []))
        refine Goes.pre (fun t kt => XS.iload X66.here hx rfl (hb hby at_104) rfl kt) ?_
        show Goes p e below s _ _ _ (T66.setTop (mkF m 106 #[.val (.int p1), .val (.int p2), .val (.int (p2 &&& (3 : Int32))), .val (.int p1), .val (.ref ka), .val (.ref ka), .val (.int (1 : Int32))] [(.int (1 : Int32))]))
        refine Goes.pre (fun t kt => XS.ifNo X66.here hx rfl (hb hby at_106) rfl (Jvm.Free.XT.i0_eq_f ((by decide))) kt) ?_
        show Goes p e below s _ _ _ (T66.setTop (mkF m 109 #[.val (.int p1), .val (.int p2), .val (.int (p2 &&& (3 : Int32))), .val (.int p1), .val (.ref ka), .val (.ref ka), .val (.int (1 : Int32))] []))
        refine Goes.pre (fun t kt => XS.iconst X66.here hx rfl (hb hby at_109) kt) ?_
        show Goes p e below s _ _ _ (T66.setTop (mkF m 110 #[.val (.int p1), .val (.int p2), .val (.int (p2 &&& (3 : Int32))), .val (.int p1), .val (.ref ka), .val (.ref ka), .val (.int (1 : Int32))] [(.int (1 : Int32))]))
        refine Goes.pre (fun t kt => XS.goto X66.here hx rfl (pc0 := 110) (pc' := 114) rfl (hb hby at_110) (by decide) (by decide) kt) ?_
        show Goes p e below s _ _ _ (T66.setTop (mkF m 114 #[.val (.int p1), .val (.int p2), .val (.int (p2 &&& (3 : Int32))), .val (.int p1), .val (.ref ka), .val (.ref ka), .val (.int (1 : Int32))] [(.int (1 : Int32))]))
        refine Goes.ret X66 (some (.int (1 : Int32))) (fun h => by rw [Bd.returns] at h; cases h) (BodyLoose.notSynchronized Bd) (by decide) (by decide) (fun fs hr => retN X66 hx (t := .boolean) Bd.returns (by simp) (hb hby at_114) hr) ?_
        show Q_rm0 Z p1 p2 va kv ka ra h0 n0 _ T66.heap _
        rw [e66]
        exact ⟨rfl, N65⟩
      · by_cases hB : p1 = (2 : Int32)
        · obtain ⟨_, _, ⟨T67, L67, k67, n67⟩, -, X67, ⟨Lc67, hQ67, l67, y67, z67⟩, st67⟩ := Jvm.LawKit.callS X0 hx (y := (⟨"com/example/quantail/quantail/SketchFamily", "ofCode", "(I)Lcom/example/quantail/quantail/SketchFamily;"⟩ : MethodName)) hown (mvT hZ (hw _ (List.mem_of_getElem? (i := 0) rfl))) (mvT hZ (hw _ (List.mem_of_getElem? (i := 1) rfl))) (mvT hZ (hw _ (List.mem_of_getElem? (i := 2) rfl))) (mvT hZ (hw _ (List.mem_of_getElem? (i := 3) rfl))) (by decide) (backOf (W := 0) (rm1_2 l Z a0 hw [] p1 va kv ka ra h0 n0 Z0 pf_S_com_example_quantail_quantail_SketchFamily__VALUES pf_V_va pf_E_va pf_F_ka_com_example_quantail_quantail_SketchFamily_code pf_F_ra_com_example_quantail_quantail_SketchFamily_code (hB) X00) hZ (hw _ (List.mem_of_getElem? (i := 3) rfl)) (hw _ (List.mem_of_getElem? (i := 2) rfl)) (by decide) (by decide)) (g := (mkF m 26 #[.val (.int p1), .val (.int p2), .val (.int (p2 &&& (3 : Int32))), .val (.int p1), .unset, .unset, .unset] [(.int p1)])) rfl (by rw [hml]; rfl) (argsL := [(.int p1)]) (rest := []) (lenOf pd_2 rfl) rfl (by show 2 * 0 + _ ≤ _; exact Nat.le_of_eq rfl) (hb hby at_26) (fun _ _ => ⟨rfl, e0, (by decide : 0 + 1 ≤ _), (by decide : 0 + 2 ≤ _)⟩)
          dsimp only [Pt.U, Pt.locs, Pt.cells, Pt.slots] at X67 l67 y67 z67 st67 hQ67
          subst l67 y67 z67
          obtain ⟨rfl, Nq67, Kq67⟩ := hQ67
          refine Goes.pre st67 ?_
          have N67 := Fr.app N0 Nq67
          obtain ⟨h67, e67⟩ : ∃ z, T67.heap = z := ⟨_, rfl⟩
          rw [e67] at Kq67 
          have Z67 : n0 ≤ h67.size := Nat.le_trans Z0 Kq67.1
          have Od67 := X00.keep Kq67 all0
          show Goes p e below s _ _ _ (T67.setTop (mkF m 29 #[.val (.int p1), .val (.int p2), .val (.int (p2 &&& (3 : Int32))), .val (.int p1), .unset, .unset, .unset] [(.ref ra)]))
          refine Goes.pre (fun t kt => XS.astore X67.here hx rfl (hb hby at_29) rfl rfl (l' := #[.val (.int p1), .val (.int p2), .val (.int (p2 &&& (3 : Int32))), .val (.int p1), .val (.ref ra), .unset, .unset]) rfl kt) ?_
          show Goes p e below s _ _ _ (T67.setTop (mkF m 31 #[.val (.int p1), .val (.int p2), .val (.int (p2 &&& (3 : Int32))), .val (.int p1), .val (.ref ra), .unset, .unset] []))
          refine Goes.pre (fun t kt => XS.iloadN X67.here hx rfl (hb hby at_31) rfl kt) ?_
          show Goes p e below s _ _ _ (T67.setTop (mkF m 32 #[.val (.int p1), .val (.int p2), .val (.int (p2 &&& (3 : Int32))), .val (.int p1), .val (.ref ra), .unset, .unset] [(.int p1)]))
          refine Goes.pre (fun t kt => XS.iconst X67.here hx rfl (hb hby at_32) kt) ?_
          show Goes p e below s _ _ _ (T67.setTop (mkF m 33 #[.val (.int p1), .val (.int p2), .val (.int (p2 &&& (3 : Int32))), .val (.int p1), .val (.ref ra), .unset, .unset] [(.int (1 : Int32)), (.int p1)]))
          refine Goes.pre (fun t kt => XS.icmpYes X67.here hx rfl (pc0 := 33) (pc' := 44) rfl (hb hby at_33) rfl (Jvm.Free.XT.ii_ne_t (hA)) (by decide) (by decide) kt) ?_
          show Goes p e below s _ _ _ (T67.setTop (mkF m 44 #[.val (.int p1), .val (.int p2), .val (.int (p2 &&& (3 : Int32))), .val (.int p1), .val (.ref ra), .unset, .unset] []))
          refine Goes.pre (fun t kt => XS.iloadN X67.here hx rfl (hb hby at_44) rfl kt) ?_
          show Goes p e below s _ _ _ (T67.setTop (mkF m 45 #[.val (.int p1), .val (.int p2), .val (.int (p2 &&& (3 : Int32))), .val (.int p1), .val (.ref ra), .unset, .unset] [(.int p1)]))
          refine Goes.pre (fun t kt => XS.iconst X67.here hx rfl (hb hby at_45) kt) ?_
          show Goes p e below s _ _ _ (T67.setTop (mkF m 46 #[.val (.int p1), .val (.int p2), .val (.int (p2 &&& (3 : Int32))), .val (.int p1), .val (.ref ra), .unset, .unset] [(.int (2 : Int32)), (.int p1)]))
          refine Goes.pre (fun t kt => XS.icmpNo X67.here hx rfl (hb hby at_46) rfl (Jvm.Free.XT.ii_ne_f (hB)) kt) ?_
          show Goes p e below s _ _ _ (T67.setTop (mkF m 49 #[.val (.int p1), .val (.int p2), .val (.int (p2 &&& (3 : Int32))), .val (.int p1), .val (.ref ra), .unset, .unset] []))
          obtain ⟨T68, X68, e68, st68⟩ := getS2 X67 hx hZ hown (host := "") (Or.inl (hw _ (List.mem_of_getElem? (i := 29) rfl))) Via.refl e67 (pf_S_com_example_quantail_quantail_SketchFamily_REQ.ext Od67.2) (g := (mkF m 49 #[.val (.int p1), .val (.int p2), .val (.int (p2 &&& (3 : Int32))), .val (.int p1), .val (.ref ra), .unset, .unset] [])) rfl (hb hby at_49)
          refine Goes.pre st68 ?_
          show Goes p e below s _ _ _ (T68.setTop (mkF m 52 #[.val (.int p1), .val (.int p2), .val (.int (p2 &&& (3 : Int32))), .val (.int p1), .val (.ref ra), .unset, .unset] [(.ref ra)]))
          refine Goes.pre (fun t kt => XS.astore X68.here hx rfl (hb hby at_52) rfl rfl (l' := #[.val (.int p1), .val (.int p2), .val (.int (p2 &&& (3 : Int32))), .val (.int p1), .val (.ref ra), .val (.ref ra), .unset]) rfl kt) ?_
          show Goes p e below s _ _ _ (T68.setTop (mkF m 54 #[.val (.int p1), .val (.int p2), .val (.int (p2 &&& (3 : Int32))), .val (.int p1), .val (.ref ra), .val (.ref ra), .unset] []))
          refine Goes.pre (fun t kt => XS.goto X68.here hx rfl (pc0 := 54) (pc' := 60) rfl (hb hby at_54) (by decide) (by decide) kt) ?_
          show Goes p e below s _ _ _ (T68.setTop (mkF m 60 #[.val (.int p1), .val (.int p2), .val (.int (p2 &&& (3 : Int32))), .val (.int p1), .val (.ref ra), .val (.ref ra), .unset] []))
          obtain ⟨T69, X69, e69, st69⟩ := getS2 X68 hx hZ hown (host := "") (Or.inl (hw _ (List.mem_of_getElem? (i := 23) rfl))) Via.refl e68 (pf_S_com_example_quantail_quantail_SketchFamily_KLL.ext Od67.2) (g := (mkF m 60 #[.val (.int p1), .val (.int p2), .val (.int (p2 &&& (3 : Int32))), .val (.int p1), .val (.ref ra), .val (.ref ra), .unset] [])) rfl (hb hby at_60)
          refine Goes.pre st69 ?_
          show Goes p e below s _ _ _ (T69.setTop (mkF m 63 #[.val (.int p1), .val (.int p2), .val (.int (p2 &&& (3 : Int32))), .val (.int p1), .val (.ref ra), .val (.ref ra), .unset] [(.ref ka)]))
          have fc70 : Fld Z h67 ka "com/example/quantail/quantail/SketchFamily" "code" "I" (.int (1 : Int32)) := (pf_F_ka_com_example_quantail_quantail_SketchFamily_code.keep Kq67 nin0)
          have fc73 : Exa Z h67 ka "com/example/quantail/quantail/SketchFamily" := (pf_E_ka.keep Kq67)
          obtain ⟨cq72, kq72, qa72, qb72, qc72⟩ := isOf hZ e69 fc73
          obtain ⟨_, _, ⟨T71, L71, k71, n71⟩, -, X71, ⟨Lc71, hQ71, l71, y71, z71⟩, st71⟩ := X69.virtualBack hx (y := (⟨"com/example/quantail/quantail/SketchFamily", "code", "()I"⟩ : MethodName)) (z := (⟨"com/example/quantail/quantail/SketchFamily", "code", "()I"⟩ : MethodName)) hown (mvT hZ (hw _ (List.mem_of_getElem? (i := 24) rfl))) (mvT hZ (hw _ (List.mem_of_getElem? (i := 25) rfl))) (notFace_of_selects (args := #[]) (mvT hZ (hw _ (List.mem_of_getElem? (i := 27) rfl)))) (mvT hZ (hw _ (List.mem_of_getElem? (i := 27) rfl))) (mvT hZ (hw _ (List.mem_of_getElem? (i := 26) rfl))) (by decide) (backOf (W := 0) (rm3 l Z a0 hw [] ka (1 : Int32) h67 n0 Z67 fc70) hZ (hw _ (List.mem_of_getElem? (i := 28) rfl)) (hw _ (List.mem_of_getElem? (i := 2) rfl)) (by decide) (by decide)) qa72 qc72 (g := (mkF m 63 #[.val (.int p1), .val (.int p2), .val (.int (p2 &&& (3 : Int32))), .val (.int p1), .val (.ref ra), .val (.ref ra), .unset] [(.ref ka)])) rfl (by rw [hml]; rfl) (Steps.refl _) (argsL := []) (rest := []) (lenOf pd_3 rfl) rfl (by show 2 * 0 + _ ≤ _; exact Nat.le_of_eq rfl) (hb hby at_63) (fun _ _ => ⟨rfl, e69, (by decide : 1 + 0 ≤ _), (by decide : 2 + 0 ≤ _)⟩)
          dsimp only [Pt.U, Pt.locs, Pt.cells, Pt.slots] at X71 l71 y71 z71 st71 hQ71
          subst l71 y71 z71
          obtain ⟨rfl, Nq71, eq71⟩ := hQ71
          refine Goes.run st71 ?_
          have N71 := Fr.app N67 Nq71
          show Goes p e below s _ _ _ (T71.setTop (mkF m 66 #[.val (.int p1), .val (.int p2), .val (.int (p2 &&& (3 : Int32))), .val (.int p1), .val (.ref ra), .val (.ref ra), .unset] [(.int (1 : Int32))]))
          have fc74 : Arv Z h67 va kv (.object "com/example/quantail/quantail/SketchFamily") (2 : Int32) [(.ref ka), (.ref ra)] .null := (pf_V_va.keep Kq67 nin0)
          have fc75 : Exa Z h67 va "[Lcom/example/quantail/quantail/SketchFamily;" := (pf_E_va.keep Kq67)
          have fc76 : Fld Z h67 ra "com/example/quantail/quantail/SketchFamily" "code" "I" (.int (2 : Int32)) := (pf_F_ra_com_example_quantail_quantail_SketchFamily_code.keep Kq67 nin0)
          obtain ⟨_, _, ⟨T77, L77, k77, n77⟩, -, X77, ⟨Lc77, hQ77, l77, y77, z77⟩, st77⟩ := Jvm.LawKit.callS X71 hx (y := (⟨"com/example/quantail/quantail/SketchFamily", "ofCode", "(I)Lcom/example/quantail/quantail/SketchFamily;"⟩ : MethodName)) hown (mvT hZ (hw _ (List.mem_of_getElem? (i := 0) rfl))) (mvT hZ (hw _ (List.mem_of_getElem? (i := 1) rfl))) (mvT hZ (hw _ (List.mem_of_getElem? (i := 2) rfl))) (mvT hZ (hw _ (List.mem_of_getElem? (i := 3) rfl))) (by decide) (backOf (W := 0) (rm1_1 l Z a0 hw [] (1 : Int32) va kv ka ra h67 n0 Z67 pf_S_com_example_quantail_quantail_SketchFamily__VALUES fc74 fc75 fc70 fc76 (rfl) Od67) hZ (hw _ (List.mem_of_getElem? (i := 3) rfl)) (hw _ (List.mem_of_getElem? (i := 2) rfl)) (by decide) (by decide)) (g := (mkF m 66 #[.val (.int p1), .val (.int p2), .val (.int (p2 &&& (3 : Int32))), .val (.int p1), .val (.ref ra), .val (.ref ra), .unset] [(.int (1 : Int32))])) rfl (by rw [hml]; rfl) (argsL := [(.int (1 : Int32))]) (rest := []) (lenOf pd_2 rfl) rfl (by show 2 * 0 + _ ≤ _; exact Nat.le_of_eq rfl) (hb hby at_66) (fun _ _ => ⟨rfl, eq71, (by decide : 1 + 1 ≤ _), (by decide : 2 + 2 ≤ _)⟩)
          dsimp only [Pt.U, Pt.locs, Pt.cells, Pt.slots] at X77 l77 y77 z77 st77 hQ77
          subst l77 y77 z77
          obtain ⟨rfl, Nq77, Kq77⟩ := hQ77
          refine Goes.pre st77 ?_
          have N77 := Fr.app N71 Nq77
          obtain ⟨h77, e77⟩ : ∃ z, T77.heap = z := ⟨_, rfl⟩
          rw [e77] at Kq77 
          have Z77 : n0 ≤ h77.size := Nat.le_trans Z67 Kq77.1
          have Od77 := Od67.keep Kq77 all0
          show Goes p e below s _ _ _ (T77.setTop (mkF m 69 #[.val (.int p1), .val (.int p2), .val (.int (p2 &&& (3 : Int32))), .val (.int p1), .val (.ref ra), .val (.ref ra), .unset] [(.ref ka)]))
          obtain ⟨T78, X78, e78, st78⟩ := getS2 X77 hx hZ hown (host := "") (Or.inl (hw _ (List.mem_of_getElem? (i := 23) rfl))) Via.refl e77 (pf_S_com_example_quantail_quantail_SketchFamily_KLL.ext Od77.2) (g := (mkF m 69 #[.val (.int p1), .val (.int p2), .val (.int (p2 &&& (3 : Int32))), .val (.int p1), .val (.ref ra), .val (.ref ra), .unset] [(.ref ka)])) rfl (hb hby at_69)
          refine Goes.pre st78 ?_
          show Goes p e below s _ _ _ (T78.setTop (mkF m 72 #[.val (.int p1), .val (.int p2), .val (.int (p2 &&& (3 : Int32))), .val (.int p1), .val (.ref ra), .val (.ref ra), .unset] [(.ref ka), (.ref ka)]))
          refine Goes.pre (fun t kt => Jvm.RoadKit.acmp (g := (mkF m 72 #[.val (.int p1), .val (.int p2), .val (.int (p2 &&& (3 : Int32))), .val (.int p1), .val (.ref ra), .val (.ref ra), .unset] [(.ref ka), (.ref ka)])) X78 hx rfl rfl rfl (pc0 := 72) (pc' := 75) (same := true) rfl (hb hby at_72) rfl (decide_eq_true rfl) (by decide) (by decide) kt) ?_
          show Goes p e below s _ _ _ (T78.setTop (mkF m 75 #[.val (.int p1), .val (.int p2), .val (.int (p2 &&& (3 : Int32))), .val (.int p1), .val (.ref ra), .val (.ref ra), .unset] []))
          obtain ⟨T79, X79, e79, st79⟩ := getS2 X78 hx hZ hown (host := "") (Or.inl (hw _ (List.mem_of_getElem? (i := 29) rfl))) Via.refl e78 (pf_S_com_example_quantail_quantail_SketchFamily_REQ.ext Od77.2) (g := (mkF m 75 #[.val (.int p1), .val (.int p2), .val (.int (p2 &&& (3 : Int32))), .val (.int p1), .val (.ref ra), .val (.ref ra), .unset] [])) rfl (hb hby at_75)
          refine Goes.pre st79 ?_
          show Goes p e below s _ _ _ (T79.setTop (mkF m 78 #[.val (.int p1), .val (.int p2), .val (.int (p2 &&& (3 : Int32))), .val (.int p1), .val (.ref ra), .val (.ref ra), .unset] [(.ref ra)]))
          have fc80 : Fld Z h77 ra "com/example/quantail/quantail/SketchFamily" "code" "I" (.int (2 : Int32)) := (fc76.keep Kq77 nin0)
          have fc83 : Exa Z h77 ra "com/example/quantail/quantail/SketchFamily" := ((pf_E_ra.keep Kq67).keep Kq77)
          obtain ⟨cq82, kq82, qa82, qb82, qc82⟩ := isOf hZ e79 fc83
          obtain ⟨_, _, ⟨T81, L81, k81, n81⟩, -, X81, ⟨Lc81, hQ81, l81, y81, z81⟩, st81⟩ := X79.virtualBack hx (y := (⟨"com/example/quantail/quantail/SketchFamily", "code", "()I"⟩ : MethodName)) (z := (⟨"com/example/quantail/quantail/SketchFamily", "code", "()I"⟩ : MethodName)) hown (mvT hZ (hw _ (List.mem_of_getElem? (i := 24) rfl))) (mvT hZ (hw _ (List.mem_of_getElem? (i := 25) rfl))) (notFace_of_selects (args := #[]) (mvT hZ (hw _ (List.mem_of_getElem? (i := 27) rfl)))) (mvT hZ (hw _ (List.mem_of_getElem? (i := 27) rfl))) (mvT hZ (hw _ (List.mem_of_getElem? (i := 26) rfl))) (by decide) (backOf (W := 0) (rm3 l Z a0 hw [] ra (2 : Int32) h77 n0 Z77 fc80) hZ (hw _ (List.mem_of_getElem? (i := 28) rfl)) (hw _ (List.mem_of_getElem? (i := 2) rfl)) (by decide) (by decide)) qa82 qc82 (g := (mkF m 78 #[.val (.int p1), .val (.int p2), .val (.int (p2 &&& (3 : Int32))), .val (.int p1), .val (.ref ra), .val (.ref ra), .unset] [(.ref ra)])) rfl (by rw [hml]; rfl) (Steps.refl _) (argsL := []) (rest := []) (lenOf pd_3 rfl) rfl (by show 2 * 0 + _ ≤ _; exact Nat.le_of_eq rfl) (hb hby at_78) (fun _ _ => ⟨rfl, e79, (by decide : 2 + 0 ≤ _), (by decide : 4 + 0 ≤ _)⟩)
          dsimp only [Pt.U, Pt.locs, Pt.cells, Pt.slots] at X81 l81 y81 z81 st81 hQ81
          subst l81 y81 z81
          obtain ⟨rfl, Nq81, eq81⟩ := hQ81
          refine Goes.run st81 ?_
          have N81 := Fr.app N77 Nq81
          show Goes p e below s _ _ _ (T81.setTop (mkF m 81 #[.val (.int p1), .val (.int p2), .val (.int (p2 &&& (3 : Int32))), .val (.int p1), .val (.ref ra), .val (.ref ra), .unset] [(.int (2 : Int32))]))
          have fc84 : Arv Z h77 va kv (.object "com/example/quantail/quantail/SketchFamily") (2 : Int32) [(.ref ka), (.ref ra)] .null := (fc74.keep Kq77 nin0)
          have fc85 : Exa Z h77 va "[Lcom/example/quantail/quantail/SketchFamily;" := (fc75.keep Kq77)
          have fc86 : Fld Z h77 ka "com/example/quantail/quantail/SketchFamily" "code" "I" (.int (1 : Int32)) := (fc70.keep Kq77 nin0)
          obtain ⟨_, _, ⟨T87, L87, k87, n87⟩, -, X87, ⟨Lc87, hQ87, l87, y87, z87⟩, st87⟩ := Jvm.LawKit.callS X81 hx (y := (⟨"com/example/quantail/quantail/SketchFamily", "ofCode", "(I)Lcom/example/quantail/quantail/SketchFamily;"⟩ : MethodName)) hown (mvT hZ (hw _ (List.mem_of_getElem? (i := 0) rfl))) (mvT hZ (hw _ (List.mem_of_getElem? (i := 1) rfl))) (mvT hZ (hw _ (List.mem_of_getElem? (i := 2) rfl))) (mvT hZ (hw _ (List.mem_of_getElem? (i := 3) rfl))) (by decide) (backOf (W := 0) (rm1_2 l Z a0 hw [] (2 : Int32) va kv ka ra h77 n0 Z77 pf_S_com_example_quantail_quantail_SketchFamily__VALUES fc84 fc85 fc86 fc80 (rfl) Od77) hZ (hw _ (List.mem_of_getElem? (i := 3) rfl)) (hw _ (List.mem_of_getElem? (i := 2) rfl)) (by decide) (by decide)) (g := (mkF m 81 #[.val (.int p1), .val (.int p2), .val (.int (p2 &&& (3 : Int32))), .val (.int p1), .val (.ref ra), .val (.ref ra), .unset] [(.int (2 : Int32))])) rfl (by rw [hml]; rfl) (argsL := [(.int (2 : Int32))]) (rest := []) (lenOf pd_2 rfl) rfl (by show 2 * 0 + _ ≤ _; exact Nat.le_of_eq rfl) (hb hby at_81) (fun _ _ => ⟨rfl, eq81, (by decide : 2 + 1 ≤ _), (by decide : 4 + 2 ≤ _)⟩)
          dsimp only [Pt.U, Pt.locs, Pt.cells, Pt.slots] at X87 l87 y87 z87 st87 hQ87
          subst l87 y87 z87
          obtain ⟨rfl, Nq87, Kq87⟩ := hQ87
          refine Goes.pre st87 ?_
          have N87 := Fr.app N81 Nq87
          obtain ⟨h87, e87⟩ : ∃ z, T87.heap = z := ⟨_, rfl⟩
          rw [e87] at Kq87 
          have Z87 : n0 ≤ h87.size := Nat.le_trans Z77 Kq87.1
          have Od87 := Od77.keep Kq87 all0
          show Goes p e below s _ _ _ (T87.setTop (mkF m 84 #[.val (.int p1), .val (.int p2), .val (.int (p2 &&& (3 : Int32))), .val (.int p1), .val (.ref ra), .val (.ref ra), .unset] [(.ref ra)]))
          obtain ⟨T88, X88, e88, st88⟩ := getS2 X87 hx hZ hown (host := "") (Or.inl (hw _ (List.mem_of_getElem? (i := 29) rfl))) Via.refl e87 (pf_S_com_example_quantail_quantail_SketchFamily_REQ.ext Od87.2) (g := (mkF m 84 #[.val (.int p1), .val (.int p2), .val (.int (p2 &&& (3 : Int32))), .val (.int p1), .val (.ref ra), .val (.ref ra), .unset] [(.ref ra)])) rfl (hb hby at_84)
          refine Goes.pre st88 ?_
          show Goes p e below s _ _ _ (T88.setTop (mkF m 87 #[.val (.int p1), .val (.int p2), .val (.int (p2 &&& (3 : Int32))), .val (.int p1), .val (.ref ra), .val (.ref ra), .unset] [(.ref ra), (.ref ra)]))
          refine Goes.pre (fun t kt => Jvm.RoadKit.acmp (g := (mkF m 87 #[.val (.int p1), .val (.int p2), .val (.int (p2 &&& (3 : Int32))), .val (.int p1), .val (.ref ra), .val (.ref ra), .unset] [(.ref ra), (.ref ra)])) X88 hx rfl rfl rfl (pc0 := 87) (pc' := 90) (same := true) rfl (hb hby at_87) rfl (decide_eq_true rfl) (by decide) (by decide) kt) ?_
          show Goes p e below s _ _ _ (T88.setTop (mkF m 90 #[.val (.int p1), .val (.int p2), .val (.int (p2 &&& (3 : Int32))), .val (.int p1), .val (.ref ra), .val (.ref ra), .unset] []))
          refine Goes.pre (fun t kt => XS.iconst X88.here hx rfl (hb hby at_90) kt) ?_
          show Goes p e below s _ _ _ (T88.setTop (mkF m 91 #[.val (.int p1), .val (.int p2), .val (.int (p2 &&& (3 : Int32))), .val (.int p1), .val (.ref ra), .val (.ref ra), .unset] [(.int (1 : Int32))]))
          refine Goes.pre (fun t kt => XS.goto X88.here hx rfl (pc0 := 91) (pc' := 95) rfl (hb hby at_91) (by decide) (by decide) kt) ?_
          show Goes p e below s _ _ _ (T88.setTop (mkF m 95 #[.val (.int p1), .val (.int p2), .val (.int (p2 &&& (3 : Int32))), .val (.int p1), .val (.ref ra), .val (.ref ra), .unset] [(.int (1 : Int32))]))
          refine Goes.pre (fun t kt => XS.istore X88.here hx rfl (hb hby at_95) rfl (l' := #[.val (.int p1), .val (.int p2), .val (.int (p2 &&& (3 : Int32))), .val (.int p1), .val (.ref ra), .val (.ref ra), .val (.int (1 : Int32))]) rfl kt) ?_
          show Goes p e below s _ _ _ (T88.setTop (mkF m 97 #[.val (.int p1), .val (.int p2), .val (.int (p2 &&& (3 : Int32))), .val (.int p1), .val (.ref ra), .val (.ref ra), .val (.int (1 : Int32))] []))
          refine Goes.pre (fun t kt => XS.aload X88.here hx rfl (hb hby at_97) rfl rfl kt) ?_
          show Goes p e below s _ _ _ (T88.setTop (mkF m 99 #[.val (.int p1), .val (.int p2), .val (.int (p2 &&& (3 : Int32))), .val (.int p1), .val (.ref ra), .val (.ref ra), .val (.int (1 : Int32))] [(.ref ra)]))
          refine Goes.pre (fun t kt => XS.aload X88.here hx rfl (hb hby at_99) rfl rfl kt) ?_
          show Goes p e below s _ _ _ (T88.setTop (mkF m 101 #[.val (.int p1), .val (.int p2), .val (.int (p2 &&& (3 : Int32))), .val (.int p1), .val (.ref ra), .val (.ref ra), .val (.int (1 : Int32))] [(.ref ra), (.ref ra)]))
          refine Goes.pre (fun t kt => Jvm.RoadKit.acmp (g := (mkF m 101 #[.val (.int p1), .val (.int p2), .val (.int (p2 &&& (3 : Int32))), .val (.int p1), .val (.ref ra), .val (.ref ra), .val (.int (1 : Int32))] [(.ref ra), (.ref ra)])) X88 hx rfl rfl rfl (pc0 := 101) (pc' := 104) (same := true) rfl (hb hby at_101) rfl (decide_eq_true rfl) (by decide) (by decide) kt) ?_
          show Goes p e below s _ _ _ (T88.setTop (mkF m 104 #[.val (.int p1), .val (.int p2), .val (.int (p2 &&& (3 : Int32))), .val (.int p1), .val (.ref ra), .val (.ref ra), .val (.int (1 : Int32))] []))
          refine Goes.pre (fun t kt => XS.iload X88.here hx rfl (hb hby at_104) rfl kt) ?_
          show Goes p e below s _ _ _ (T88.setTop (mkF m 106 #[.val (.int p1), .val (.int p2), .val (.int (p2 &&& (3 : Int32))), .val (.int p1), .val (.ref ra), .val (.ref ra), .val (.int (1 : Int32))] [(.int (1 : Int32))]))
          refine Goes.pre (fun t kt => XS.ifNo X88.here hx rfl (hb hby at_106) rfl (Jvm.Free.XT.i0_eq_f ((by decide))) kt) ?_
          show Goes p e below s _ _ _ (T88.setTop (mkF m 109 #[.val (.int p1), .val (.int p2), .val (.int (p2 &&& (3 : Int32))), .val (.int p1), .val (.ref ra), .val (.ref ra), .val (.int (1 : Int32))] []))
          refine Goes.pre (fun t kt => XS.iconst X88.here hx rfl (hb hby at_109) kt) ?_
          show Goes p e below s _ _ _ (T88.setTop (mkF m 110 #[.val (.int p1), .val (.int p2), .val (.int (p2 &&& (3 : Int32))), .val (.int p1), .val (.ref ra), .val (.ref ra), .val (.int (1 : Int32))] [(.int (1 : Int32))]))
          refine Goes.pre (fun t kt => XS.goto X88.here hx rfl (pc0 := 110) (pc' := 114) rfl (hb hby at_110) (by decide) (by decide) kt) ?_
          show Goes p e below s _ _ _ (T88.setTop (mkF m 114 #[.val (.int p1), .val (.int p2), .val (.int (p2 &&& (3 : Int32))), .val (.int p1), .val (.ref ra), .val (.ref ra), .val (.int (1 : Int32))] [(.int (1 : Int32))]))
          refine Goes.ret X88 (some (.int (1 : Int32))) (fun h => by rw [Bd.returns] at h; cases h) (BodyLoose.notSynchronized Bd) (by decide) (by decide) (fun fs hr => retN X88 hx (t := .boolean) Bd.returns (by simp) (hb hby at_114) hr) ?_
          show Q_rm0 Z p1 p2 va kv ka ra h0 n0 _ T88.heap _
          rw [e88]
          exact ⟨rfl, N87⟩
        · obtain ⟨_, _, ⟨T89, L89, k89, n89⟩, -, X89, ⟨Lc89, hQ89, l89, y89, z89⟩, st89⟩ := Jvm.LawKit.callS X0 hx (y := (⟨"com/example/quantail/quantail/SketchFamily", "ofCode", "(I)Lcom/example/quantail/quantail/SketchFamily;"⟩ : MethodName)) hown (mvT hZ (hw _ (List.mem_of_getElem? (i := 0) rfl))) (mvT hZ (hw _ (List.mem_of_getElem? (i := 1) rfl))) (mvT hZ (hw _ (List.mem_of_getElem? (i := 2) rfl))) (mvT hZ (hw _ (List.mem_of_getElem? (i := 3) rfl))) (by decide) (backOf (W := 0) (rm1_n l Z a0 hw [] p1 va kv ka ra h0 n0 Z0 pf_S_com_example_quantail_quantail_SketchFamily__VALUES pf_V_va pf_E_va pf_F_ka_com_example_quantail_quantail_SketchFamily_code pf_F_ra_com_example_quantail_quantail_SketchFamily_code (hA) (hB) X00) hZ (hw _ (List.mem_of_getElem? (i := 3) rfl)) (hw _ (List.mem_of_getElem? (i := 2) rfl)) (by decide) (by decide)) (g := (mkF m 26 #[.val (.int p1), .val (.int p2), .val (.int (p2 &&& (3 : Int32))), .val (.int p1), .unset, .unset, .unset] [(.int p1)])) rfl (by rw [hml]; rfl) (argsL := [(.int p1)]) (rest := []) (lenOf pd_2 rfl) rfl (by show 2 * 0 + _ ≤ _; exact Nat.le_of_eq rfl) (hb hby at_26) (fun _ _ => ⟨rfl, e0, (by decide : 0 + 1 ≤ _), (by decide : 0 + 2 ≤ _)⟩)
          dsimp only [Pt.U, Pt.locs, Pt.cells, Pt.slots] at X89 l89 y89 z89 st89 hQ89
          subst l89 y89 z89
          obtain ⟨rfl, Nq89, Kq89⟩ := hQ89
          refine Goes.pre st89 ?_
          have N89 := Fr.app N0 Nq89
          obtain ⟨h89, e89⟩ : ∃ z, T89.heap = z := ⟨_, rfl⟩
          rw [e89] at Kq89 
          have Z89 : n0 ≤ h89.size := Nat.le_trans Z0 Kq89.1
          have Od89 := X00.keep Kq89 all0
          show Goes p e below s _ _ _ (T89.setTop (mkF m 29 #[.val (.int p1), .val (.int p2), .val (.int (p2 &&& (3 : Int32))), .val (.int p1), .unset, .unset, .unset] [.null]))
          refine Goes.pre (fun t kt => XS.astore X89.here hx rfl (hb hby at_29) rfl rfl (l' := #[.val (.int p1), .val (.int p2), .val (.int (p2 &&& (3 : Int32))), .val (.int p1), .val .null, .unset, .unset]) rfl kt) ?_
          show Goes p e below s _ _ _ (T89.setTop (mkF m 31 #[.val (.int p1), .val (.int p2), .val (.int (p2 &&& (3 : Int32))), .val (.int p1), .val .null, .unset, .unset] []))
          refine Goes.pre (fun t kt => XS.iloadN X89.here hx rfl (hb hby at_31) rfl kt) ?_
          show Goes p e below s _ _ _ (T89.setTop (mkF m 32 #[.val (.int p1), .val (.int p2), .val (.int (p2 &&& (3 : Int32))), .val (.int p1), .val .null, .unset, .unset] [(.int p1)]))
          refine Goes.pre (fun t kt => XS.iconst X89.here hx rfl (hb hby at_32) kt) ?_
          show Goes p e below s _ _ _ (T89.setTop (mkF m 33 #[.val (.int p1), .val (.int p2), .val (.int (p2 &&& (3 : Int32))), .val (.int p1), .val .null, .unset, .unset] [(.int (1 : Int32)), (.int p1)]))
          refine Goes.pre (fun t kt => XS.icmpYes X89.here hx rfl (pc0 := 33) (pc' := 44) rfl (hb hby at_33) rfl (Jvm.Free.XT.ii_ne_t (hA)) (by decide) (by decide) kt) ?_
          show Goes p e below s _ _ _ (T89.setTop (mkF m 44 #[.val (.int p1), .val (.int p2), .val (.int (p2 &&& (3 : Int32))), .val (.int p1), .val .null, .unset, .unset] []))
          refine Goes.pre (fun t kt => XS.iloadN X89.here hx rfl (hb hby at_44) rfl kt) ?_
          show Goes p e below s _ _ _ (T89.setTop (mkF m 45 #[.val (.int p1), .val (.int p2), .val (.int (p2 &&& (3 : Int32))), .val (.int p1), .val .null, .unset, .unset] [(.int p1)]))
          refine Goes.pre (fun t kt => XS.iconst X89.here hx rfl (hb hby at_45) kt) ?_
          show Goes p e below s _ _ _ (T89.setTop (mkF m 46 #[.val (.int p1), .val (.int p2), .val (.int (p2 &&& (3 : Int32))), .val (.int p1), .val .null, .unset, .unset] [(.int (2 : Int32)), (.int p1)]))
          refine Goes.pre (fun t kt => XS.icmpYes X89.here hx rfl (pc0 := 46) (pc' := 57) rfl (hb hby at_46) rfl (Jvm.Free.XT.ii_ne_t (hB)) (by decide) (by decide) kt) ?_
          show Goes p e below s _ _ _ (T89.setTop (mkF m 57 #[.val (.int p1), .val (.int p2), .val (.int (p2 &&& (3 : Int32))), .val (.int p1), .val .null, .unset, .unset] []))
          refine Goes.pre (fun t kt => XS.aconstNull X89.here hx rfl (hb hby at_57) kt) ?_
          show Goes p e below s _ _ _ (T89.setTop (mkF m 58 #[.val (.int p1), .val (.int p2), .val (.int (p2 &&& (3 : Int32))), .val (.int p1), .val .null, .unset, .unset] [.null]))
          refine Goes.pre (fun t kt => XS.astore X89.here hx rfl (hb hby at_58) rfl rfl (l' := #[.val (.int p1), .val (.int p2), .val (.int (p2 &&& (3 : Int32))), .val (.int p1), .val .null, .val .null, .unset]) rfl kt) ?_
          show Goes p e below s _ _ _ (T89.setTop (mkF m 60 #[.val (.int p1), .val (.int p2), .val (.int (p2 &&& (3 : Int32))), .val (.int p1), .val .null, .val .null, .unset] []))
          obtain ⟨T90, X90, e90, st90⟩ := getS2 X89 hx hZ hown (host := "") (Or.inl (hw _ (List.mem_of_getElem? (i := 23) rfl))) Via.refl e89 (pf_S_com_example_quantail_quantail_SketchFamily_KLL.ext Od89.2) (g := (mkF m 60 #[.val (.int p1), .val (.int p2), .val (.int (p2 &&& (3 : Int32))), .val (.int p1), .val .null, .val .null, .unset] [])) rfl (hb hby at_60)
          refine Goes.pre st90 ?_
          show Goes p e below s _ _ _ (T90.setTop (mkF m 63 #[.val (.int p1), .val (.int p2), .val (.int (p2 &&& (3 : Int32))), .val (.int p1), .val .null, .val .null, .unset] [(.ref ka)]))
          have fc91 : Fld Z h89 ka "com/example/quantail/quantail/SketchFamily" "code" "I" (.int (1 : Int32)) := (pf_F_ka_com_example_quantail_quantail_SketchFamily_code.keep Kq89 nin0)
          have fc94 : Exa Z h89 ka "com/example/quantail/quantail/SketchFamily" := (pf_E_ka.keep Kq89)
          obtain ⟨cq93, kq93, qa93, qb93, qc93⟩ := isOf hZ e90 fc94
          obtain ⟨_, _, ⟨T92, L92, k92, n92⟩, -, X92, ⟨Lc92, hQ92, l92, y92, z92⟩, st92⟩ := X90.virtualBack hx (y := (⟨"com/example/quantail/quantail/SketchFamily", "code", "()I"⟩ : MethodName)) (z := (⟨"com/example/quantail/quantail/SketchFamily", "code", "()I"⟩ : MethodName)) hown (mvT hZ (hw _ (List.mem_of_getElem? (i := 24) rfl))) (mvT hZ (hw _ (List.mem_of_getElem? (i := 25) rfl))) (notFace_of_selects (args := #[]) (mvT hZ (hw _ (List.mem_of_getElem? (i := 27) rfl)))) (mvT hZ (hw _ (List.mem_of_getElem? (i := 27) rfl))) (mvT hZ (hw _ (List.mem_of_getElem? (i := 26) rfl))) (by decide) (backOf (W := 0) (rm3 l Z a0 hw [] ka (1 : Int32) h89 n0 Z89 fc91) hZ (hw _ (List.mem_of_getElem? (i := 28) rfl)) (hw _ (List.mem_of_getElem? (i := 2) rfl)) (by decide) (by decide)) qa93 qc93 (g := (mkF m 63 #[.val (.int p1), .val (.int p2), .val (.int (p2 &&& (3 : Int32))), .val (.int p1), .val .null, .val .null, .unset] [(.ref ka)])) rfl (by rw [hml]; rfl) (Steps.refl _) (argsL := []) (rest := []) (lenOf pd_3 rfl) rfl (by show 2 * 0 + _ ≤ _; exact Nat.le_of_eq rfl) (hb hby at_63) (fun _ _ => ⟨rfl, e90, (by decide : 1 + 0 ≤ _), (by decide : 2 + 0 ≤ _)⟩)
          dsimp only [Pt.U, Pt.locs, Pt.cells, Pt.slots] at X92 l92 y92 z92 st92 hQ92
          subst l92 y92 z92
          obtain ⟨rfl, Nq92, eq92⟩ := hQ92
          refine Goes.run st92 ?_
          have N92 := Fr.app N89 Nq92
          show Goes p e below s _ _ _ (T92.setTop (mkF m 66 #[.val (.int p1), .val (.int p2), .val (.int (p2 &&& (3 : Int32))), .val (.int p1), .val .null, .val .null, .unset] [(.int (1 : Int32))]))
          have fc95 : Arv Z h89 va kv (.object "com/example/quantail/quantail/SketchFamily") (2 : Int32) [(.ref ka), (.ref ra)] .null := (pf_V_va.keep Kq89 nin0)
          have fc96 : Exa Z h89 va "[Lcom/example/quantail/quantail/SketchFamily;" := (pf_E_va.keep Kq89)
          have fc97 : Fld Z h89 ra "com/example/quantail/quantail/SketchFamily" "code" "I" (.int (2 : Int32)) := (pf_F_ra_com_example_quantail_quantail_SketchFamily_code.keep Kq89 nin0)
          obtain ⟨_, _, ⟨T98, L98, k98, n98⟩, -, X98, ⟨Lc98, hQ98, l98, y98, z98⟩, st98⟩ := Jvm.LawKit.callS X92 hx (y := (⟨"com/example/quantail/quantail/SketchFamily", "ofCode", "(I)Lcom/example/quantail/quantail/SketchFamily;"⟩ : MethodName)) hown (mvT hZ (hw _ (List.mem_of_getElem? (i := 0) rfl))) (mvT hZ (hw _ (List.mem_of_getElem? (i := 1) rfl))) (mvT hZ (hw _ (List.mem_of_getElem? (i := 2) rfl))) (mvT hZ (hw _ (List.mem_of_getElem? (i := 3) rfl))) (by decide) (backOf (W := 0) (rm1_1 l Z a0 hw [] (1 : Int32) va kv ka ra h89 n0 Z89 pf_S_com_example_quantail_quantail_SketchFamily__VALUES fc95 fc96 fc91 fc97 (rfl) Od89) hZ (hw _ (List.mem_of_getElem? (i := 3) rfl)) (hw _ (List.mem_of_getElem? (i := 2) rfl)) (by decide) (by decide)) (g := (mkF m 66 #[.val (.int p1), .val (.int p2), .val (.int (p2 &&& (3 : Int32))), .val (.int p1), .val .null, .val .null, .unset] [(.int (1 : Int32))])) rfl (by rw [hml]; rfl) (argsL := [(.int (1 : Int32))]) (rest := []) (lenOf pd_2 rfl) rfl (by show 2 * 0 + _ ≤ _; exact Nat.le_of_eq rfl) (hb hby at_66) (fun _ _ => ⟨rfl, eq92, (by decide : 1 + 1 ≤ _), (by decide : 2 + 2 ≤ _)⟩)
          dsimp only [Pt.U, Pt.locs, Pt.cells, Pt.slots] at X98 l98 y98 z98 st98 hQ98
          subst l98 y98 z98
          obtain ⟨rfl, Nq98, Kq98⟩ := hQ98
          refine Goes.pre st98 ?_
          have N98 := Fr.app N92 Nq98
          obtain ⟨h98, e98⟩ : ∃ z, T98.heap = z := ⟨_, rfl⟩
          rw [e98] at Kq98 
          have Z98 : n0 ≤ h98.size := Nat.le_trans Z89 Kq98.1
          have Od98 := Od89.keep Kq98 all0
          show Goes p e below s _ _ _ (T98.setTop (mkF m 69 #[.val (.int p1), .val (.int p2), .val (.int (p2 &&& (3 : Int32))), .val (.int p1), .val .null, .val .null, .unset] [(.ref ka)]))
          obtain ⟨T99, X99, e99, st99⟩ := getS2 X98 hx hZ hown (host := "") (Or.inl (hw _ (List.mem_of_getElem? (i := 23) rfl))) Via.refl e98 (pf_S_com_example_quantail_quantail_SketchFamily_KLL.ext Od98.2) (g := (mkF m 69 #[.val (.int p1), .val (.int p2), .val (.int (p2 &&& (3 : Int32))), .val (.int p1), .val .null, .val .null, .unset] [(.ref ka)])) rfl (hb hby at_69)
          refine Goes.pre st99 ?_
          show Goes p e below s _ _ _ (T99.setTop (mkF m 72 #[.val (.int p1), .val (.int p2), .val (.int (p2 &&& (3 : Int32))), .val (.int p1), .val .null, .val .null, .unset] [(.ref ka), (.ref ka)]))
          refine Goes.pre (fun t kt => Jvm.RoadKit.acmp (g := (mkF m 72 #[.val (.int p1), .val (.int p2), .val (.int (p2 &&& (3 : Int32))), .val (.int p1), .val .null, .val .null, .unset] [(.ref ka), (.ref ka)])) X99 hx rfl rfl rfl (pc0 := 72) (pc' := 75) (same := true) rfl (hb hby at_72) rfl (decide_eq_true rfl) (by decide) (by decide) kt) ?_
          show Goes p e below s _ _ _ (T99.setTop (mkF m 75 #[.val (.int p1), .val (.int p2), .val (.int (p2 &&& (3 : Int32))), .val (.int p1), .val .null, .val .null, .unset] []))
          obtain ⟨T100, X100, e100, st100⟩ := getS2 X99 hx hZ hown (host := "") (Or.inl (hw _ (List.mem_of_getElem? (i := 29) rfl))) Via.refl e99 (pf_S_com_example_quantail_quantail_SketchFamily_REQ.ext Od98.2) (g := (mkF m 75 #[.val (.int p1), .val (.int p2), .val (.int (p2 &&& (3 : Int32))), .val (.int p1), .val .null, .val .null, .unset] [])) rfl (hb hby at_75)
          refine Goes.pre st100 ?_
          show Goes p e below s _ _ _ (T100.setTop (mkF m 78 #[.val (.int p1), .val (.int p2), .val (.int (p2 &&& (3 : Int32))), .val (.int p1), .val .null, .val .null, .unset] [(.ref ra)]))
          have fc101 : Fld Z h98 ra "com/example/quantail/quantail/SketchFamily" "code" "I" (.int (2 : Int32)) := (fc97.keep Kq98 nin0)
          have fc104 : Exa Z h98 ra "com/example/quantail/quantail/SketchFamily" := ((pf_E_ra.keep Kq89).keep Kq98)
          obtain ⟨cq103, kq103, qa103, qb103, qc103⟩ := isOf hZ e100 fc104
          obtain ⟨_, _, ⟨T102, L102, k102, n102⟩, -, X102, ⟨Lc102, hQ102, l102, y102, z102⟩, st102⟩ := X100.virtualBack hx (y := (⟨"com/example/quantail/quantail/SketchFamily", "code", "()I"⟩ : MethodName)) (z := (⟨"com/example/quantail/quantail/SketchFamily", "code", "()I"⟩ : MethodName)) hown (mvT hZ (hw _ (List.mem_of_getElem? (i := 24) rfl))) (mvT hZ (hw _ (List.mem_of_getElem? (i := 25) rfl))) (notFace_of_selects (args := #[]) (mvT hZ (hw _ (List.mem_of_getElem? (i := 27) rfl)))) (mvT hZ (hw _ (List.mem_of_getElem? (i := 27) rfl))) (mvT hZ (hw _ (List.mem_of_getElem? (i := 26) rfl))) (by decide) (backOf (W := 0) (rm3 l Z a0 hw [] ra (2 : Int32) h98 n0 Z98 fc101) hZ (hw _ (List.mem_of_getElem? (i := 28) rfl)) (hw _ (List.mem_of_getElem? (i := 2) rfl)) (by decide) (by decide)) qa103 qc103 (g := (mkF m 78 #[.val (.int p1), .val (.int p2), .val (.int (p2 &&& (3 : Int32))), .val (.int p1), .val .null, .val .null, .unset] [(.ref ra)])) rfl (by rw [hml]; rfl) (Steps.refl _) (argsL := []) (rest := []) (lenOf pd_3 rfl) rfl (by show 2 * 0 + _ ≤ _; exact Nat.le_of_eq rfl) (hb hby at_78) (fun _ _ => ⟨rfl, e100, (by decide : 2 + 0 ≤ _), (by decide : 4 + 0 ≤ _)⟩)
          dsimp only [Pt.U, Pt.locs, Pt.cells, Pt.slots] at X102 l102 y102 z102 st102 hQ102
          subst l102 y102 z102
          obtain ⟨rfl, Nq102, eq102⟩ := hQ102
          refine Goes.run st102 ?_
          have N102 := Fr.app N98 Nq102
          show Goes p e below s _ _ _ (T102.setTop (mkF m 81 #[.val (.int p1), .val (.int p2), .val (.int (p2 &&& (3 : Int32))), .val (.int p1), .val .null, .val .null, .unset] [(.int (2 : Int32))]))
          have fc105 : Arv Z h98 va kv (.object "com/example/quantail/quantail/SketchFamily") (2 : Int32) [(.ref ka), (.ref ra)] .null := (fc95.keep Kq98 nin0)
          have fc106 : Exa Z h98 va "[Lcom/example/quantail/quantail/SketchFamily;" := (fc96.keep Kq98)
          have fc107 : Fld Z h98 ka "com/example/quantail/quantail/SketchFamily" "code" "I" (.int (1 : Int32)) := (fc91.keep Kq98 nin0)
          obtain ⟨_, _, ⟨T108, L108, k108, n108⟩, -, X108, ⟨Lc108, hQ108, l108, y108, z108⟩, st108⟩ := Jvm.LawKit.callS X102 hx (y := (⟨"com/example/quantail/quantail/SketchFamily", "ofCode", "(I)Lcom/example/quantail/quantail/SketchFamily;"⟩ : MethodName)) hown (mvT hZ (hw _ (List.mem_of_getElem? (i := 0) rfl))) (mvT hZ (hw _ (List.mem_of_getElem? (i := 1) rfl))) (mvT hZ (hw _ (List.mem_of_getElem? (i := 2) rfl))) (mvT hZ (hw _ (List.mem_of_getElem? (i := 3) rfl))) (by decide) (backOf (W := 0) (rm1_2 l Z a0 hw [] (2 : Int32) va kv ka ra h98 n0 Z98 pf_S_com_example_quantail_quantail_SketchFamily__VALUES fc105 fc106 fc107 fc101 (rfl) Od98) hZ (hw _ (List.mem_of_getElem? (i := 3) rfl)) (hw _ (List.mem_of_getElem? (i := 2) rfl)) (by decide) (by decide)) (g := (mkF m 81 #[.val (.int p1), .val (.int p2), .val (.int (p2 &&& (3 : Int32))), .val (.int p1), .val .null, .val .null, .unset] [(.int (2 : Int32))])) rfl (by rw [hml]; rfl) (argsL := [(.int (2 : Int32))]) (rest := []) (lenOf pd_2 rfl) rfl (by show 2 * 0 + _ ≤ _; exact Nat.le_of_eq rfl) (hb hby at_81) (fun _ _ => ⟨rfl, eq102, (by decide : 2 + 1 ≤ _), (by decide : 4 + 2 ≤ _)⟩)
          dsimp only [Pt.U, Pt.locs, Pt.cells, Pt.slots] at X108 l108 y108 z108 st108 hQ108
          subst l108 y108 z108
          obtain ⟨rfl, Nq108, Kq108⟩ := hQ108
          refine Goes.pre st108 ?_
          have N108 := Fr.app N102 Nq108
          obtain ⟨h108, e108⟩ : ∃ z, T108.heap = z := ⟨_, rfl⟩
          rw [e108] at Kq108 
          have Z108 : n0 ≤ h108.size := Nat.le_trans Z98 Kq108.1
          have Od108 := Od98.keep Kq108 all0
          show Goes p e below s _ _ _ (T108.setTop (mkF m 84 #[.val (.int p1), .val (.int p2), .val (.int (p2 &&& (3 : Int32))), .val (.int p1), .val .null, .val .null, .unset] [(.ref ra)]))
          obtain ⟨T109, X109, e109, st109⟩ := getS2 X108 hx hZ hown (host := "") (Or.inl (hw _ (List.mem_of_getElem? (i := 29) rfl))) Via.refl e108 (pf_S_com_example_quantail_quantail_SketchFamily_REQ.ext Od108.2) (g := (mkF m 84 #[.val (.int p1), .val (.int p2), .val (.int (p2 &&& (3 : Int32))), .val (.int p1), .val .null, .val .null, .unset] [(.ref ra)])) rfl (hb hby at_84)
          refine Goes.pre st109 ?_
          show Goes p e below s _ _ _ (T109.setTop (mkF m 87 #[.val (.int p1), .val (.int p2), .val (.int (p2 &&& (3 : Int32))), .val (.int p1), .val .null, .val .null, .unset] [(.ref ra), (.ref ra)]))
          refine Goes.pre (fun t kt => Jvm.RoadKit.acmp (g := (mkF m 87 #[.val (.int p1), .val (.int p2), .val (.int (p2 &&& (3 : Int32))), .val (.int p1), .val .null, .val .null, .unset] [(.ref ra), (.ref ra)])) X109 hx rfl rfl rfl (pc0 := 87) (pc' := 90) (same := true) rfl (hb hby at_87) rfl (decide_eq_true rfl) (by decide) (by decide) kt) ?_
          show Goes p e below s _ _ _ (T109.setTop (mkF m 90 #[.val (.int p1), .val (.int p2), .val (.int (p2 &&& (3 : Int32))), .val (.int p1), .val .null, .val .null, .unset] []))
          refine Goes.pre (fun t kt => XS.iconst X109.here hx rfl (hb hby at_90) kt) ?_
          show Goes p e below s _ _ _ (T109.setTop (mkF m 91 #[.val (.int p1), .val (.int p2), .val (.int (p2 &&& (3 : Int32))), .val (.int p1), .val .null, .val .null, .unset] [(.int (1 : Int32))]))
          refine Goes.pre (fun t kt => XS.goto X109.here hx rfl (pc0 := 91) (pc' := 95) rfl (hb hby at_91) (by decide) (by decide) kt) ?_
          show Goes p e below s _ _ _ (T109.setTop (mkF m 95 #[.val (.int p1), .val (.int p2), .val (.int (p2 &&& (3 : Int32))), .val (.int p1), .val .null, .val .null, .unset] [(.int (1 : Int32))]))
          refine Goes.pre (fun t kt => XS.istore X109.here hx rfl (hb hby at_95) rfl (l' := #[.val (.int p1), .val (.int p2), .val (.int (p2 &&& (3 : Int32))), .val (.int p1), .val .null, .val .null, .val (.int (1 : Int32))]) rfl kt) ?_
          show Goes p e below s _ _ _ (T109.setTop (mkF m 97 #[.val (.int p1), .val (.int p2), .val (.int (p2 &&& (3 : Int32))), .val (.int p1), .val .null, .val .null, .val (.int (1 : Int32))] []))
          refine Goes.pre (fun t kt => XS.aload X109.here hx rfl (hb hby at_97) rfl rfl kt) ?_
          show Goes p e below s _ _ _ (T109.setTop (mkF m 99 #[.val (.int p1), .val (.int p2), .val (.int (p2 &&& (3 : Int32))), .val (.int p1), .val .null, .val .null, .val (.int (1 : Int32))] [.null]))
          refine Goes.pre (fun t kt => XS.aload X109.here hx rfl (hb hby at_99) rfl rfl kt) ?_
          show Goes p e below s _ _ _ (T109.setTop (mkF m 101 #[.val (.int p1), .val (.int p2), .val (.int (p2 &&& (3 : Int32))), .val (.int p1), .val .null, .val .null, .val (.int (1 : Int32))] [.null, .null]))
          refine Goes.pre (fun t kt => Jvm.RoadKit.acmp (g := (mkF m 101 #[.val (.int p1), .val (.int p2), .val (.int (p2 &&& (3 : Int32))), .val (.int p1), .val .null, .val .null, .val (.int (1 : Int32))] [.null, .null])) X109 hx rfl rfl rfl (pc0 := 101) (pc' := 104) (same := true) rfl (hb hby at_101) rfl (decide_eq_true rfl) (by decide) (by decide) kt) ?_
          show Goes p e below s _ _ _ (T109.setTop (mkF m 104 #[.val (.int p1), .val (.int p2), .val (.int (p2 &&& (3 : Int32))), .val (.int p1), .val .null, .val .null, .val (.int (1 : Int32))] []))
          refine Goes.pre (fun t kt => XS.iload X109.here hx rfl (hb hby at_104) rfl kt) ?_
          show Goes p e below s _ _ _ (T109.setTop (mkF m 106 #[.val (.int p1), .val (.int p2), .val (.int (p2 &&& (3 : Int32))), .val (.int p1), .val .null, .val .null, .val (.int (1 : Int32))] [(.int (1 : Int32))]))
          refine Goes.pre (fun t kt => XS.ifNo X109.here hx rfl (hb hby at_106) rfl (Jvm.Free.XT.i0_eq_f ((by decide))) kt) ?_
          show Goes p e below s _ _ _ (T109.setTop (mkF m 109 #[.val (.int p1), .val (.int p2), .val (.int (p2 &&& (3 : Int32))), .val (.int p1), .val .null, .val .null, .val (.int (1 : Int32))] []))
          refine Goes.pre (fun t kt => XS.iconst X109.here hx rfl (hb hby at_109) kt) ?_
          show Goes p e below s _ _ _ (T109.setTop (mkF m 110 #[.val (.int p1), .val (.int p2), .val (.int (p2 &&& (3 : Int32))), .val (.int p1), .val .null, .val .null, .val (.int (1 : Int32))] [(.int (1 : Int32))]))
          refine Goes.pre (fun t kt => XS.goto X109.here hx rfl (pc0 := 110) (pc' := 114) rfl (hb hby at_110) (by decide) (by decide) kt) ?_
          show Goes p e below s _ _ _ (T109.setTop (mkF m 114 #[.val (.int p1), .val (.int p2), .val (.int (p2 &&& (3 : Int32))), .val (.int p1), .val .null, .val .null, .val (.int (1 : Int32))] [(.int (1 : Int32))]))
          refine Goes.ret X109 (some (.int (1 : Int32))) (fun h => by rw [Bd.returns] at h; cases h) (BodyLoose.notSynchronized Bd) (by decide) (by decide) (fun fs hr => retN X109 hx (t := .boolean) Bd.returns (by simp) (hb hby at_114) hr) ?_
          show Q_rm0 Z p1 p2 va kv ka ra h0 n0 _ T109.heap _
          rw [e109]
          exact ⟨rfl, N108⟩
set_option maxRecDepth 65536 in
set_option maxHeartbeats 40000000 in
theorem comes_1 {Post : Tables → Env → Array Value → State → Outcome → State → Prop} (hpost : ∀ tb e args s v u, (limb_1_1.after args s (.returned v) u = true ∧ limb_1_2.after args s (.returned v) u = true ∧ True) → FrameEnd s (.returned v) u (Jvm.fieldLocs frame_1_writes args s ++ Jvm.arrayLocs frame_1_arrays args s ++ Jvm.staticLocs frame_1_statics s) 16 128 → Post tb e args s (.returned v) u) :
    ArmFor flags0 classFile x code maxLocals ret World_1 tables_1 room_1 Calls_1 rest_1 Pre_1 Post := by
  intro l hfl _ _ p e ha hc hk s m args below hf hA hF happ hP
  obtain ⟨hcalls, hrest, hpre⟩ := hP
  obtain ⟨-, -, -, hnamed, -, -, -, hat⟩ := (Spec.applies_iff hf).mp happ
  obtain ⟨hg, hn⟩ := and_e (Cond.before_iff.mp (show (Jvm.Cond.and given_1 narrow_1).before args s = true from hpre))
  obtain ⟨gv1, gv2⟩ := and_e hg
  obtain ⟨gv3, gv4⟩ := and_e gv2
  obtain ⟨w0, w1, rfl⟩ : ∃ w0 w1 : Value, args = #[w0, w1] := by
    have hs : args.size = 2 := by simpa [Cond.value, given_1] using gv1
    obtain ⟨L⟩ := args
    match L, hs with
    | [w0, w1], _ => exact ⟨w0, w1, rfl⟩
  have hw := fun d (hd : d ∈ tables_1) => atoms_spec (ws := Jvm.Cond.code x code maxLocals ret :: tables_1) hat d (List.mem_cons_of_mem _ hd)
  have hfit : Fit s := fun {y c} hc i hi => by
    obtain ⟨ha, rfl⟩ := Array.getElem?_eq_some_iff.mp hc
    have q := List.all_eq_true.mp ((Array.all_eq_true_iff_forall_mem.mp hF) _ (Array.getElem_mem ha)) i (List.mem_range.mpr hi)
    simpa [Array.getElem?_eq_getElem hi] using q
  obtain ⟨i0, ei0⟩ := is_v gv3
  obtain rfl : w0 = (.int i0) := Option.some.inj ei0
  obtain ⟨i1, ei1⟩ := is_v gv4
  obtain rfl : w1 = (.int i1) := Option.some.inj ei1
  obtain ⟨n1, nA⟩ := and_e hn
  obtain ⟨n2, nB⟩ := and_e nA
  obtain ⟨n3, nC⟩ := and_e nB
  obtain ⟨n4, nD⟩ := and_e nC
  obtain ⟨n5, nE⟩ := and_e nD
  obtain ⟨n6, nF⟩ := and_e nE
  obtain ⟨n7, nG⟩ := and_e nF
  obtain ⟨n8, n9⟩ := and_e nG
  obtain ⟨va, eva⟩ := exa_v n2
  obtain ⟨ka, eka⟩ := exa_v n4
  obtain ⟨ra, era⟩ := exa_v n6
  have wz := hw _ (List.mem_of_getElem? (i := 2) rfl)
  have Sv := Sta.start eva (Or.inl (hw _ (List.mem_of_getElem? (i := 18) rfl)))
  have Sk := Sta.start eka (Or.inr ⟨wz, hw _ (List.mem_of_getElem? (i := 16) rfl)⟩)
  have Sr := Sta.start era (Or.inr ⟨wz, hw _ (List.mem_of_getElem? (i := 17) rfl)⟩)
  have Ev := Exa.start eva n2
  have Ek := Exa.start eka n4
  have Er := Exa.start era n6
  obtain ⟨cl, Av⟩ := Arr.start eva n1
  have Vv := own_vals hfit Av eva eka era n3 n5 n7
  have Fk := own_code eka n8
  have Fr := own_code era n9
  obtain ⟨n, o, h1, h2, h3, _, L, rfl, ⟨rfl, N⟩, hq⟩ := rm0 l s _ hw tables_1 i0 i1 va cl.cls ka ra s.heap s.heap.size (Nat.le_refl _) Sv Sk Sr Vv Ev Fk Fr Ek Er (Old.start s) p e ha hc hk s m _ below hf ((Spec.applies_iff_loose hf).mp happ).1 ⟨rfl, State.Warmed39.refl s, rfl⟩ trivial
  refine ⟨n, _, h1, h2, h3, hpost _ _ _ _ _ _ ⟨Cond.after_iff.mpr rfl, Cond.after_iff.mpr (eq_i res_at (Term.int_eval (1)) rfl), trivial⟩ ⟨hq.1, hq.2.1, (hq.2.2.sift fun y hy => Or.inr (N y hy)).mono (by decide) (by decide)⟩⟩
theorem main_1_1 : Claimed_1_1 := comes_1 fun _ _ _ _ _ _ h hF => ⟨h.1, hF⟩
theorem main_1_2 : Claimed_1_2 := comes_1 fun _ _ _ _ _ _ h hF => ⟨h.2.1, hF⟩
end Jvm.Pilot.@@N@@
namespace Jvm.Pilot.@@N@@
open Jvm Jvm.ClassFile Sem Op Lib Jvm.Free Jvm.Stand Jvm.Pilot.@@N@@.Jvm.D
/-! MADE BY PROGRAM (witnessworld.py) out of the Statement's table words and the real class files: 13 classes; the members and pool entries that the words name. The judged class is class 1, her method 1. -/
namespace start1
open Jvm.ClassFile
def u (s : String) : CpInfo := .utf8 (stringToUtf16 s)
/-- a pool by its gaps: so many unusable entries, then the entry; so many at the end -/
def gap : Nat → List CpInfo → List CpInfo
  | 0, r => r
  | n + 1, r => .unusable :: gap n r
def poolList (es : List (Nat × CpInfo)) (last : Nat) : List CpInfo := es.foldr (fun e r => gap e.1 (e.2 :: r)) (gap last [])
def pool (es : List (Nat × CpInfo)) (last : Nat) : Array CpInfo := ⟨poolList es last⟩
def fileOf (pool : Array CpInfo) (this : Nat) (attrs : Array Attribute := #[]) (ms : Array MethodInfo := #[]) (fl : Nat := 33) (sup : Nat := 0) (ifs : Array Nat := #[]) (fds : Array FieldInfo := #[]) : ClassFile where
  minorVersion := 0
  majorVersion := 65
  constantPool := pool
  accessFlags := fl
  thisClass := this
  superClass := sup
  interfaces := ifs
  fields := fds
  methods := ms
  attributes := attrs
def plain (name : String) (sup : Option ClassId) : Class where
  name := name
  kind := .ordinary
  loader := none
  accessFlags := 33
  super := sup
  interfaces := #[]
  cf := none
  fields := #[]
  methods := #[]
  instanceTypes := #[]
  staticTypes := #[]
  resolved := #[]
  callSites := []
  init := .initialized
  statics := none
  mirror := none

def pool0 : Array CpInfo := pool [(5, u "<init>"), (0, u "()V"), (1, .class_ 10), (1, u "java/lang/Object"), (85, u "clone"), (0, u "()Ljava/lang/Object;")] 26

def k0m0 : Method := { name := "<init>", desc := "()V", sig := { parameters := [], returnType := none }, accessFlags := 1, code := none }
def k0m1 : Method := { name := "clone", desc := "()Ljava/lang/Object;", sig := { parameters := [], returnType := some (.object "java/lang/Object") }, accessFlags := 260, code := none }
/-- java/lang/Object -/
def k0 : Class := { plain "java/lang/Object" none with
  accessFlags := 33
  interfaces := #[]
  cf := some (fileOf pool0 8 #[] #[{ accessFlags := 1, nameIndex := 5, descriptorIndex := 6, attributes := #[] }, { accessFlags := 260, nameIndex := 96, descriptorIndex := 97, attributes := #[] }] 33 0 #[] #[])
  fields := #[]
  methods := #[k0m0, k0m1]
  instanceTypes := #[]
  staticTypes := #[]
  resolved := Array.replicate 124 none
  statics := none }

def pool1 : Array CpInfo := pool [(2, .class_ 4), (1, u "java/lang/Object"), (0, u "<init>"), (0, u "()V"), (0, .methodref 8 9), (0, .class_ 10), (0, .nameAndType 11 12), (0, u "com/example/quantail/quantail/SketchFamily"), (0, u "ofCode"), (0, u "(I)Lcom/example/quantail/quantail/SketchFamily;"), (0, .fieldref 8 14), (0, .nameAndType 15 16), (0, u "KLL"), (0, u "Lcom/example/quantail/quantail/SketchFamily;"), (0, .fieldref 8 18), (0, .nameAndType 19 16), (0, u "REQ"), (0, .methodref 8 21), (0, .nameAndType 22 23), (0, u "code"), (0, u "()I"), (0, .class_ 25), (0, u "com/example/quantail/quantail/SketchFamilyOfCodePinLaw"), (2, u "law"), (0, u "(II)Z")] 3

def k1m0 : Method := { name := "<init>", desc := "()V", sig := { parameters := [], returnType := none }, accessFlags := 2, code := none }
def k1c1 : Code := { maxStack := 2, maxLocals := 7, code := code, exceptionTable := #[], attributes := #[] }
def k1m1 : Method := { name := "law", desc := "(II)Z", sig := { parameters := [.int, .int], returnType := some .boolean }, accessFlags := 9, code := some k1c1 }
/-- com/example/quantail/quantail/SketchFamilyOfCodePinLaw -/
def k1 : Class := { plain "com/example/quantail/quantail/SketchFamilyOfCodePinLaw" (some 0) with
  accessFlags := 49
  interfaces := #[]
  cf := some (fileOf pool1 24 #[] #[{ accessFlags := 2, nameIndex := 5, descriptorIndex := 6, attributes := #[] }, { accessFlags := 9, nameIndex := 28, descriptorIndex := 29, attributes := #[] }] 49 2 #[] #[])
  fields := #[]
  methods := #[k1m0, k1m1]
  instanceTypes := #[]
  staticTypes := #[]
  resolved := Array.replicate 33 none
  statics := none }

def pool2 : Array CpInfo := pool [(1, .class_ 2), (0, u "java/lang/constant/Constable"), (0, .class_ 4), (0, u "java/lang/Object")] 6

/-- java/lang/constant/Constable -/
def k2 : Class := { plain "java/lang/constant/Constable" (some 0) with
  accessFlags := 1537
  interfaces := #[]
  cf := some (fileOf pool2 1 #[] #[] 1537 3 #[] #[])
  fields := #[]
  methods := #[]
  instanceTypes := #[]
  staticTypes := #[]
  resolved := Array.replicate 11 none
  statics := none }

def pool3 : Array CpInfo := pool [(1, .class_ 2), (0, u "java/lang/Comparable"), (0, .class_ 4), (0, u "java/lang/Object")] 7

/-- java/lang/Comparable -/
def k3 : Class := { plain "java/lang/Comparable" (some 0) with
  accessFlags := 1537
  interfaces := #[]
  cf := some (fileOf pool3 1 #[] #[] 1537 3 #[] #[])
  fields := #[]
  methods := #[]
  instanceTypes := #[]
  staticTypes := #[]
  resolved := Array.replicate 12 none
  statics := none }

def pool4 : Array CpInfo := pool [(1, .class_ 2), (0, u "java/io/Serializable"), (0, .class_ 4), (0, u "java/lang/Object")] 2

/-- java/io/Serializable -/
def k4 : Class := { plain "java/io/Serializable" (some 0) with
  accessFlags := 1537
  interfaces := #[]
  cf := some (fileOf pool4 1 #[] #[] 1537 3 #[] #[])
  fields := #[]
  methods := #[]
  instanceTypes := #[]
  staticTypes := #[]
  resolved := Array.replicate 7 none
  statics := none }

def pool5 : Array CpInfo := pool [(2, .class_ 4), (1, u "java/lang/Enum"), (0, u "name"), (0, u "Ljava/lang/String;"), (2, u "ordinal"), (0, u "I"), (1, .class_ 14), (1, u "java/lang/Object"), (4, u "hash"), (86, .class_ 108), (1, u "java/lang/Enum$EnumDesc"), (2, .class_ 112), (0, u "java/lang/constant/Constable"), (0, .class_ 114), (0, u "java/lang/Comparable"), (0, .class_ 116), (0, u "java/io/Serializable")] 87

/-- java/lang/Enum -/
def k5 : Class := { plain "java/lang/Enum" (some 0) with
  accessFlags := 1057
  interfaces := #[2, 3, 4]
  cf := some (fileOf pool5 2 #[.nestMembers #[106]] #[] 1057 12 #[111, 113, 115] #[{ accessFlags := 18, nameIndex := 5, descriptorIndex := 6, attributes := #[] }, { accessFlags := 18, nameIndex := 9, descriptorIndex := 10, attributes := #[] }, { accessFlags := 2, nameIndex := 19, descriptorIndex := 10, attributes := #[] }])
  fields := #[{ name := "name", type := (.object "java/lang/String"), accessFlags := 18, slot := 0, constantValue := 0 }, { name := "ordinal", type := .int, accessFlags := 18, slot := 1, constantValue := 0 }, { name := "hash", type := .int, accessFlags := 2, slot := 2, constantValue := 0 }]
  methods := #[]
  instanceTypes := #[(.object "java/lang/String"), .int, .int]
  staticTypes := #[]
  resolved := Array.replicate 204 none
  statics := none }

def pool6 : Array CpInfo := pool [(1, .class_ 2), (0, u "com/example/quantail/quantail/SketchFamily"), (2, u "KLL"), (0, u "Lcom/example/quantail/quantail/SketchFamily;"), (2, u "REQ"), (0, .fieldref 1 11), (0, .nameAndType 12 13), (0, u "$VALUES"), (0, u "[Lcom/example/quantail/quantail/SketchFamily;"), (0, .methodref 15 16), (0, .class_ 13), (0, .nameAndType 17 18), (0, u "clone"), (0, u "()Ljava/lang/Object;"), (1, .class_ 22), (1, u "java/lang/Enum"), (6, .fieldref 1 30), (0, .nameAndType 31 32), (0, u "code"), (0, u "I"), (2, u "label"), (0, u "Ljava/lang/String;"), (0, .methodref 1 38), (0, .nameAndType 39 40), (0, u "values"), (0, u "()[Lcom/example/quantail/quantail/SketchFamily;"), (18, u "()I"), (1, u "ofCode"), (0, u "(I)Lcom/example/quantail/quantail/SketchFamily;")] 6

def k6c0 : Code := { maxStack := 1, maxLocals := 0, code := prog_14_method_1_code, exceptionTable := #[], attributes := #[] }
def k6m0 : Method := { name := "values", desc := "()[Lcom/example/quantail/quantail/SketchFamily;", sig := { parameters := [], returnType := some (.array (.object "com/example/quantail/quantail/SketchFamily")) }, accessFlags := 9, code := some k6c0 }
def k6c1 : Code := { maxStack := 1, maxLocals := 1, code := prog_14_method_4_code, exceptionTable := #[], attributes := #[] }
def k6m1 : Method := { name := "code", desc := "()I", sig := { parameters := [], returnType := some .int }, accessFlags := 1, code := some k6c1 }
def k6c2 : Code := { maxStack := 2, maxLocals := 6, code := prog_14_method_6_code, exceptionTable := #[], attributes := #[] }
def k6m2 : Method := { name := "ofCode", desc := "(I)Lcom/example/quantail/quantail/SketchFamily;", sig := { parameters := [.int], returnType := some (.object "com/example/quantail/quantail/SketchFamily") }, accessFlags := 8, code := some k6c2 }
/-- com/example/quantail/quantail/SketchFamily -/
def k6 : Class := { plain "com/example/quantail/quantail/SketchFamily" (some 5) with
  accessFlags := 16433
  interfaces := #[]
  cf := some (fileOf pool6 1 #[] #[{ accessFlags := 9, nameIndex := 39, descriptorIndex := 40, attributes := #[] }, { accessFlags := 1, nameIndex := 31, descriptorIndex := 59, attributes := #[] }, { accessFlags := 8, nameIndex := 61, descriptorIndex := 62, attributes := #[] }] 16433 20 #[] #[{ accessFlags := 16409, nameIndex := 5, descriptorIndex := 6, attributes := #[] }, { accessFlags := 16409, nameIndex := 9, descriptorIndex := 6, attributes := #[] }, { accessFlags := 18, nameIndex := 31, descriptorIndex := 32, attributes := #[] }, { accessFlags := 18, nameIndex := 35, descriptorIndex := 36, attributes := #[] }, { accessFlags := 4122, nameIndex := 12, descriptorIndex := 13, attributes := #[] }])
  fields := #[{ name := "KLL", type := (.object "com/example/quantail/quantail/SketchFamily"), accessFlags := 16409, slot := 0, constantValue := 0 }, { name := "REQ", type := (.object "com/example/quantail/quantail/SketchFamily"), accessFlags := 16409, slot := 1, constantValue := 0 }, { name := "code", type := .int, accessFlags := 18, slot := 3, constantValue := 0 }, { name := "label", type := (.object "java/lang/String"), accessFlags := 18, slot := 4, constantValue := 0 }, { name := "$VALUES", type := (.array (.object "com/example/quantail/quantail/SketchFamily")), accessFlags := 4122, slot := 2, constantValue := 0 }]
  methods := #[k6m0, k6m1, k6m2]
  instanceTypes := #[(.object "java/lang/String"), .int, .int, .int, (.object "java/lang/String")]
  staticTypes := #[(.object "com/example/quantail/quantail/SketchFamily"), (.object "com/example/quantail/quantail/SketchFamily"), (.array (.object "com/example/quantail/quantail/SketchFamily"))]
  resolved := Array.replicate 69 none
  statics := some 0 }

def pool7 : Array CpInfo := pool [(1, .class_ 2), (0, u "java/lang/Cloneable"), (0, .class_ 4), (0, u "java/lang/Object")] 2

/-- java/lang/Cloneable -/
def k7 : Class := { plain "java/lang/Cloneable" (some 0) with
  accessFlags := 1537
  interfaces := #[]
  cf := some (fileOf pool7 1 #[] #[] 1537 3 #[] #[])
  fields := #[]
  methods := #[]
  instanceTypes := #[]
  staticTypes := #[]
  resolved := Array.replicate 7 none
  statics := none }

/-- the primitive byte -/
def k8 : Class := { plain "byte" none with kind := .primitive 'B', accessFlags := 0x411 }
/-- [B -/
def k9 : Class := { plain "[B" (some 0) with kind := .array 8 .byte, interfaces := #[7, 4], accessFlags := 1041 }

/-- the primitive int -/
def k10 : Class := { plain "int" none with kind := .primitive 'I', accessFlags := 0x411 }
/-- [I -/
def k11 : Class := { plain "[I" (some 0) with kind := .array 10 .int, interfaces := #[7, 4], accessFlags := 1041 }

/-- [Lcom/example/quantail/quantail/SketchFamily; -/
def k12 : Class := { plain "[Lcom/example/quantail/quantail/SketchFamily;" (some 0) with kind := .array 6 (.object "com/example/quantail/quantail/SketchFamily"), interfaces := #[7, 4], accessFlags := 1041 }

def heap : Heap := #[{ cls := 6, slots := #[.ref 2, .ref 3, .ref 1], vm := .statics 6 },
  { cls := 12, slots := #[.ref 2, .ref 3], vm := .none },
  { cls := 6, slots := #[.null, .int 0, .int 0, .int 1, .null], vm := .none },
  { cls := 6, slots := #[.null, .int 0, .int 0, .int 2, .null], vm := .none }]
def classes : Array Class := #[k0, k1, k2, k3, k4, k5, k6, k7, k8, k9, k10, k11, k12]
def interned : List (Array UInt16 × Addr) := []
def slotsUsed : Nat := 15
def theMethod : MethodId := ⟨1, 1⟩
def args0 : Array Value := #[.int 5, .int 3]
def aboutOver (below : List Frame) : State where
  vm := { classes := classes, interned := interned.toArray }
  heap := heap
  slotsUsed := slotsUsed
  threads := #[{ frames := .invoking theMethod args0 :: below }]
def below0 : List Frame := [.native { method := ⟨0, 0⟩, args := #[] }]
def about1 : State := aboutOver below0
def p0 : Program := .bare "" "" ""
def e0 : Env := launch0.env 0 0 0
theorem w_frames : about1.frames = Frame.invoking theMethod args0 :: below0 := rfl
set_option maxRecDepth 65536 in
theorem w_args : argsFit about1.vm theMethod args0 = true := by decide +kernel
set_option maxRecDepth 65536 in
theorem w_heap : heapFits about1 = true := by decide +kernel
set_option maxRecDepth 65536 in
theorem w_runnable : about1.curStatus? = some .runnable := by decide +kernel
set_option maxRecDepth 65536 in
theorem w_alone : about1.alone = true := by decide +kernel
set_option maxRecDepth 65536 in
theorem w_named : about1.methodNamed? x = some theMethod := by decide +kernel
set_option maxRecDepth 65536 in
theorem w_hears : about1.hears theMethod below0 = true := by decide +kernel
set_option maxRecDepth 65536 in
theorem w_ripe : about1.ripe theMethod args0 below0 = true := by decide +kernel
theorem w_running : about1.status = .running := rfl
set_option maxRecDepth 65536 in
theorem w_room : about1.hasRoom e0.platform room_1 = true :=
  launch0.hasRoom_least _ room_1 (by decide +kernel) (by decide +kernel) (by decide +kernel) (by decide +kernel) (by decide +kernel) (by decide +kernel)
theorem allAtoms_all (ts : List Jvm.Cond) (a : Array Jvm.Value) (st : Jvm.State) : (allAtoms ts).before a st = ts.all (fun c => c.before a st) := by
  induction ts with
  | nil => rfl
  | cons c t ih =>
    show (Jvm.Cond.and c (allAtoms t)).before a st = _
    rw [Jvm.Cond.before_and, ih, List.all_cons]
def words1 : List Jvm.Cond := Jvm.Cond.code x code maxLocals ret :: tables_1
/-- a 'code' word, met by the world's own term for the bytes: nothing is compared byte by byte -/
theorem code_word {y : MethodName} {bytes : ByteArray} {mx : Nat} {rt : Option FieldType} {a : Array Value} {s : State} {m : MethodId} {meth : Method} {c : Code} (h1 : s.methodNamed? y = some m) (h2 : s.vm.method? m = some meth) (h3 : meth.code = some c) (h4 : c.code = bytes)
    (h5 : (c.maxLocals == mx && c.exceptionTable.isEmpty && decide (c.maxStack ≤ mostOperands) && decide (meth.sig.returnType = rt) && !meth.locks && decide (parseMethodDescriptor y.desc = some meth.sig)) = true) : (Jvm.Cond.code y bytes mx rt).before a s = true := by
  simp only [Bool.and_eq_true, beq_iff_eq, Bool.not_eq_true', decide_eq_true_eq] at h5
  obtain ⟨⟨⟨⟨⟨g1, g2⟩, g3⟩, g4⟩, g5⟩, g6⟩ := h5
  simp [Cond.before, Cond.holds, Cond.value, h1, h2, h3, h4, g1, g2, g3, g4, g5, g6]
def isCode : Jvm.Cond → Bool
  | .code _ _ _ _ => true
  | _ => false
theorem all_split {L : List Jvm.Cond} {P : Jvm.Cond → Bool} (h1 : L.all (fun c => isCode c || P c) = true) (h2 : ∀ c ∈ L.filter isCode, P c = true) : L.all P = true := by
  refine List.all_eq_true.mpr fun c hc => ?_
  have h := List.all_eq_true.mp h1 c hc
  rcases Bool.eq_false_or_eq_true (isCode c) with hi | hi
  · exact h2 c (List.mem_filter.mpr ⟨hc, hi⟩)
  · simpa [hi] using h
set_option maxRecDepth 65536 in
theorem w_c0 : (Jvm.Cond.code x code maxLocals ret).before args0 about1 = true := code_word (m := ⟨1, 1⟩) (meth := k1m1) (c := k1c1) (by decide +kernel) rfl rfl rfl (by decide +kernel)
set_option maxRecDepth 65536 in
theorem w_c1 : (Jvm.Cond.code ({ cls := "com/example/quantail/quantail/SketchFamily", name := "ofCode", desc := "(I)Lcom/example/quantail/quantail/SketchFamily;" } : Jvm.MethodName) prog_14_method_6_code (6 : Nat) (Option.some (Jvm.ClassFile.FieldType.object "com/example/quantail/quantail/SketchFamily"))).before args0 about1 = true := code_word (m := ⟨6, 2⟩) (meth := k6m2) (c := k6c2) (by decide +kernel) rfl rfl rfl (by decide +kernel)
set_option maxRecDepth 65536 in
theorem w_c2 : (Jvm.Cond.code ({ cls := "com/example/quantail/quantail/SketchFamily", name := "values", desc := "()[Lcom/example/quantail/quantail/SketchFamily;" } : Jvm.MethodName) prog_14_method_1_code (0 : Nat) (Option.some (Jvm.ClassFile.FieldType.array (Jvm.ClassFile.FieldType.object "com/example/quantail/quantail/SketchFamily")))).before args0 about1 = true := code_word (m := ⟨6, 0⟩) (meth := k6m0) (c := k6c0) (by decide +kernel) rfl rfl rfl (by decide +kernel)
set_option maxRecDepth 65536 in
theorem w_c3 : (Jvm.Cond.code ({ cls := "com/example/quantail/quantail/SketchFamily", name := "code", desc := "()I" } : Jvm.MethodName) prog_14_method_4_code (1 : Nat) (Option.some Jvm.ClassFile.FieldType.int)).before args0 about1 = true := code_word (m := ⟨6, 1⟩) (meth := k6m1) (c := k6c1) (by decide +kernel) rfl rfl rfl (by decide +kernel)
def codes1 : List Jvm.Cond := [Jvm.Cond.code x code maxLocals ret, Jvm.Cond.code ({ cls := "com/example/quantail/quantail/SketchFamily", name := "ofCode", desc := "(I)Lcom/example/quantail/quantail/SketchFamily;" } : Jvm.MethodName) prog_14_method_6_code (6 : Nat) (Option.some (Jvm.ClassFile.FieldType.object "com/example/quantail/quantail/SketchFamily")), Jvm.Cond.code ({ cls := "com/example/quantail/quantail/SketchFamily", name := "values", desc := "()[Lcom/example/quantail/quantail/SketchFamily;" } : Jvm.MethodName) prog_14_method_1_code (0 : Nat) (Option.some (Jvm.ClassFile.FieldType.array (Jvm.ClassFile.FieldType.object "com/example/quantail/quantail/SketchFamily"))), Jvm.Cond.code ({ cls := "com/example/quantail/quantail/SketchFamily", name := "code", desc := "()I" } : Jvm.MethodName) prog_14_method_4_code (1 : Nat) (Option.some Jvm.ClassFile.FieldType.int)]
set_option maxRecDepth 65536 in
theorem codes_eq : words1.filter isCode = codes1 := rfl
theorem w_codes : ∀ c ∈ words1.filter isCode, c.before args0 about1 = true := by
  rw [codes_eq]
  intro c hc
  simp only [codes1, List.mem_cons, List.not_mem_nil, or_false] at hc
  rcases hc with rfl | rfl | rfl | rfl
  · exact w_c0
  · exact w_c1
  · exact w_c2
  · exact w_c3
set_option maxRecDepth 65536 in
theorem w_t1 : (words1.take 24).all (fun c => isCode c || c.before args0 about1) = true := by decide +kernel
set_option maxRecDepth 65536 in
theorem w_t2 : (words1.drop 24).all (fun c => isCode c || c.before args0 about1) = true := by decide +kernel
theorem w_tables : (allAtoms (Jvm.Cond.code x code maxLocals ret :: tables_1)).before args0 about1 = true := by
  rw [allAtoms_all]
  show words1.all (fun c => c.before args0 about1) = true
  refine all_split ?_ w_codes
  rw [← List.take_append_drop 24 words1, List.all_append, w_t1, w_t2]
  rfl
set_option maxRecDepth 65536 in
theorem w_case : (Jvm.Cond.and given_1 narrow_1).before args0 about1 = true := by decide +kernel
theorem w_applies : (headSpec (Jvm.Cond.code x code maxLocals ret :: tables_1) room_1).applies x e0.platform about1 = true :=
  (Spec.applies_iff w_frames).mpr ⟨w_running, w_runnable, w_alone, w_named, w_hears, w_ripe, w_room, w_tables⟩
theorem atStart : AtStart classFile x code maxLocals ret World_1 tables_1 room_1 Calls_1 rest_1 Pre_1 launch0 p0 e0 about1 theMethod args0 below0 :=
  ⟨lists_1, trivial, launch0.admits_env _ _ _, launch0.least_env, fairChoices_fair.cas, fairChoices_fair.clock, w_frames, w_args, w_heap, w_applies, trivial, trivial, w_case⟩
end start1
theorem witness_1 : WitnessClaimed_1 := ⟨start1.p0, start1.e0, start1.about1, start1.theMethod, start1.args0, start1.below0, start1.atStart⟩
end Jvm.Pilot.@@N@@
