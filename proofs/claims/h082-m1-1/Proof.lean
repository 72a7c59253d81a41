import JvmDerived
import JvmDerived.Pilot.@@N@@Statement
import JvmDerived.Pilot.@@N@@Code
set_option linter.unusedVariables false
set_option linter.unusedSimpArgs false
namespace Jvm.Pilot.@@N@@
open Jvm Jvm.ClassFile Sem Op Lib Jvm.Free Jvm.Stand Jvm.LawKit Jvm.RoadKit Bundle Jvm.Pilot.@@N@@.Jvm.D
/-- from A the run comes to an end of the body that says P -/
def Goes (p : Program) (e : Env) (below : List Frame) (s : State) (P : Option Value → Heap → List Loc → Prop) (k n : Nat) (A : State) : Prop :=
  ∃ s₂ o, Steps p.tables e below A s₂ ∧ s₂.status = .running ∧ Ended s₂ below o ∧ ∃ v L, o = .returned v ∧ P v s₂.heap L ∧ FrameEnd s o s₂ L k n
section OwnGoes
variable {p : Program} {l : Launch} {e : Env} {R : Room} {s : State} {m : MethodId} {args : Array Value} {below : List Frame} {meth : Method} {c : Code} {T : State} {locs : List Loc} {cells slots : Nat} {P : Option Value → Heap → List Loc → Prop} {k n : Nat} {A B : State}
theorem Goes.pre (h : ∀ t, Steps p.tables e below B t → Steps p.tables e below A t) (g : Goes p e below s P k n B) : Goes p e below s P k n A := by
  obtain ⟨t, o, h1, r⟩ := g
  exact ⟨t, o, h _ h1, r⟩
theorem Goes.run (h : Steps p.tables e below A B) (g : Goes p e below s P k n B) : Goes p e below s P k n A := g.pre fun _ q => h.trans q
theorem Goes.ret (X : Stand p l e R s m args below meth c T locs cells slots) (v : Option Value) (hv : meth.sig.returnType = none → v = none) (hlocks : meth.locks = false) (hk : cells ≤ k) (hn : slots ≤ n) {f : JFrame}
    (st : ∀ fs : List Frame, (∀ (f : JFrame) (acts : List Action), f.method = m → f.locked = none → f.entered = [] → (doReturn e (T.setTop f) acts v).1 = T.setFrames fs) → Steps p.tables e below (T.setTop f) (T.setFrames fs))
    (hP : P v T.heap locs) : Goes p e below s P k n (T.setTop f) := by
  obtain ⟨fs, hr, hrun, hended, hW, hsame⟩ := X.leave (v := v) hv hlocks
  exact ⟨_, _, st fs hr, hrun, hended, _, _, rfl, hP, ⟨_, rfl⟩, hW, hsame.mono hk hn⟩
end OwnGoes

def own_min (p q : Int32) : Int32 := if q < p then q else p
def own_max (p q : Int32) : Int32 := if p < q then q else p
def own_ok (lo hi : Int32) : Prop := (lo = (0 : Int32) ∧ hi = (0 : Int32)) ∨ (lo = (0 : Int32) ∧ hi = (1 : Int32)) ∨ (lo = (0 : Int32) ∧ hi = (2 : Int32)) ∨ (lo = (0 : Int32) ∧ hi = (3 : Int32)) ∨ (lo = (0 : Int32) ∧ hi = (4 : Int32)) ∨ (lo = (1 : Int32) ∧ hi = (1 : Int32)) ∨ (lo = (1 : Int32) ∧ hi = (2 : Int32)) ∨ (lo = (1 : Int32) ∧ hi = (3 : Int32)) ∨ (lo = (1 : Int32) ∧ hi = (4 : Int32)) ∨ (lo = (2 : Int32) ∧ hi = (2 : Int32)) ∨ (lo = (2 : Int32) ∧ hi = (3 : Int32)) ∨ (lo = (2 : Int32) ∧ hi = (4 : Int32)) ∨ (lo = (3 : Int32) ∧ hi = (3 : Int32)) ∨ (lo = (3 : Int32) ∧ hi = (4 : Int32)) ∨ (lo = (4 : Int32) ∧ hi = (4 : Int32))
def own_pick (j : Int32) (w0 w1 w2 w3 : UInt64) : UInt64 := if j = 0 then w0 else if j = 1 then w1 else if j = 2 then w2 else w3
def own_e (lo hi k : Int32) (w0 w1 w2 w3 : UInt64) : UInt64 := own_pick (if lo ≤ k ∧ k < hi then lo + hi - 1 - k else k) w0 w1 w2 w3
theorem own_nn {lo hi k : Int32} {a b c d : Int64} : Jvm.Free.Fl.NoNaN64 (own_e lo hi k (FP.l2d a) (FP.l2d b) (FP.l2d c) (FP.l2d d)) := by
  unfold own_e
  generalize (if lo ≤ k ∧ k < hi then lo + hi - 1 - k else k) = j
  unfold own_pick
  split
  · exact nn_w rfl
  · split
    · exact nn_w rfl
    · split
      · exact nn_w rfl
      · exact nn_w rfl
theorem own_mod5 (x : Int32) : ((x &&& (2147483647 : Int32)) % (5 : Int32)) = 0 ∨ ((x &&& (2147483647 : Int32)) % (5 : Int32)) = 1 ∨ ((x &&& (2147483647 : Int32)) % (5 : Int32)) = 2 ∨ ((x &&& (2147483647 : Int32)) % (5 : Int32)) = 3 ∨ ((x &&& (2147483647 : Int32)) % (5 : Int32)) = 4 := by
  have h0 := c_and x (2147483647 : Int32) (by decide)
  have h1 := (c_irem (x &&& (2147483647 : Int32)) (5 : Int32) 5 (by decide)).1 h0.1
  have k0 : (0 : Int32).toInt = 0 := by decide
  have k1 : (1 : Int32).toInt = 1 := by decide
  have k2 : (2 : Int32).toInt = 2 := by decide
  have k3 : (3 : Int32).toInt = 3 := by decide
  have k4 : (4 : Int32).toInt = 4 := by decide
  simp only [← Int32.toInt_inj, k0, k1, k2, k3, k4]
  omega
theorem own_okLaw (x y : Int32) : own_ok (own_min ((x &&& (2147483647 : Int32)) % (5 : Int32)) ((y &&& (2147483647 : Int32)) % (5 : Int32))) (own_max ((x &&& (2147483647 : Int32)) % (5 : Int32)) ((y &&& (2147483647 : Int32)) % (5 : Int32))) := by
  rcases own_mod5 x with h | h | h | h | h <;> rcases own_mod5 y with g | g | g | g | g <;> rw [h, g] <;> unfold own_ok <;> decide
theorem d1_0 : decode jdk_29_method_69_code 0 = .ok (.iload_n 0, 1) := by decide +kernel
theorem d1_1 : decode jdk_29_method_69_code 1 = .ok (.iload_n 1, 1) := by decide +kernel
theorem d1_2 : decode jdk_29_method_69_code 2 = .ok (.if_icmp .gt 7, 3) := by decide +kernel
theorem d1_9 : decode jdk_29_method_69_code 9 = .ok (.iload_n 1, 1) := by decide +kernel
theorem d1_10 : decode jdk_29_method_69_code 10 = .ok (.ireturn, 1) := by decide +kernel
theorem d1_5 : decode jdk_29_method_69_code 5 = .ok (.iload_n 0, 1) := by decide +kernel
theorem d1_6 : decode jdk_29_method_69_code 6 = .ok (.goto 4, 3) := by decide +kernel
def Q_rm1 (Z : State) (p1 : Int32) (p2 : Int32) (h0 : Heap) (n0 : Nat) (v : Option Value) (h : Heap) (L : List Loc) : Prop := v = some (.int (own_min p1 p2)) ∧ Fr n0 L ∧ h = h0
theorem ef_rm1 (m : MethodId) (p1 : Int32) (p2 : Int32) : entryFrame m #[(.int p1), (.int p2)] 2 = mkF m 0 #[.val (.int p1), .val (.int p2)] [] := by first | (simp [entryFrame, mkF, argsToLocals, Value.category]; done) | rfl
set_option maxRecDepth 65536 in
set_option maxHeartbeats 40000000 in
theorem rm1 (l : Launch) (Z : State) (a0 : Array Value) (hw : ∀ d ∈ tables_1, d.before a0 Z = true) (ws : List Jvm.Cond) (p1 : Int32) (p2 : Int32) (h0 : Heap) (n0 : Nat) (Z0 : n0 ≤ h0.size) :
    MetFree l (⟨"java/lang/Math", "min", "(II)I"⟩ : MethodName) (head1 (Jvm.Cond.code (⟨"java/lang/Math", "min", "(II)I"⟩ : MethodName) jdk_29_method_69_code 2 (some .int) :: ws) ({ frames := 0, cells := 0, slots := 0, locals := 0 } : Room)) (fun a U => a = #[(.int p1), (.int p2)] ∧ Z.Warmed39 U.vm ∧ U.heap = h0) (fun _ _ _ _ _ => True) (fun _ U o U' => ∃ v L, o = .returned v ∧ Q_rm1 Z p1 p2 h0 n0 v U'.heap L ∧ FrameEnd U o U' L ({ frames := 0, cells := 0, slots := 0, locals := 0 } : Room).cells ({ frames := 0, cells := 0, slots := 0, locals := 0 } : Room).slots) := by
  refine MetFree.of_bodySF (Jvm.Free.JP.mathPlain rfl (by decide +kernel)) hisR ?_
  intro p e s m args below meth c s₁ Bd hml0 hP hK
  obtain ⟨rfl, hZ, hh⟩ := hP
  have hx := Bd.exec
  have hby := Bd.bytes
  have hml : c.maxLocals = 2 := hml0
  have hown : s.vm.findClass "java/lang/Math" = some m.cls := findClass_of_methodNamed Bd.named
  have hnm := (name_of_methodNamed Bd.named Bd.method).1
  have X0 : Stand p l e ({ frames := 0, cells := 0, slots := 0, locals := 0 } : Room) s m #[(.int p1), (.int p2)] below meth c s₁ [] 0 0 := Stand.of_body Bd
  have e0 : s₁.heap = h0 := by rw [← hh, Bd.state]; rfl
  have N0 := Fr.nil n0
  show Goes p e below s (Q_rm1 Z p1 p2 h0 n0) ({ frames := 0, cells := 0, slots := 0, locals := 0 } : Room).cells ({ frames := 0, cells := 0, slots := 0, locals := 0 } : Room).slots (s₁.setTop (entryFrame m #[(.int p1), (.int p2)] 2))
  refine Goes.pre (fun t kt => castTop (ef_rm1 m p1 p2) kt) ?_
  show Goes p e below s _ _ _ (s₁.setTop (mkF m 0 #[.val (.int p1), .val (.int p2)] []))
  refine Goes.pre (fun t kt => XS.iloadN X0.here hx rfl (hb hby d1_0) rfl kt) ?_
  show Goes p e below s _ _ _ (s₁.setTop (mkF m 1 #[.val (.int p1), .val (.int p2)] [(.int p1)]))
  refine Goes.pre (fun t kt => XS.iloadN X0.here hx rfl (hb hby d1_1) rfl kt) ?_
  show Goes p e below s _ _ _ (s₁.setTop (mkF m 2 #[.val (.int p1), .val (.int p2)] [(.int p2), (.int p1)]))
  by_cases hc2 : p2 < p1
  · refine Goes.pre (fun t kt => XS.icmpYes X0.here hx rfl (pc0 := 2) (pc' := 9) rfl (hb hby d1_2) rfl (Jvm.Free.XT.ii_gt_t (hc2)) (by decide) (by decide) kt) ?_
    show Goes p e below s _ _ _ (s₁.setTop (mkF m 9 #[.val (.int p1), .val (.int p2)] []))
    refine Goes.pre (fun t kt => XS.iloadN X0.here hx rfl (hb hby d1_9) rfl kt) ?_
    show Goes p e below s _ _ _ (s₁.setTop (mkF m 10 #[.val (.int p1), .val (.int p2)] [(.int p2)]))
    refine Goes.ret X0 (some (.int p2)) (fun h => by rw [Bd.returns] at h; cases h) (BodyLoose.notSynchronized Bd) (by decide) (by decide) (fun fs hr => retOut X0 hx (t := .int) Bd.returns rfl (Or.inl ⟨rfl, Or.inl rfl, _, rfl⟩) (hb hby d1_10) hr) ?_
    show Q_rm1 Z p1 p2 h0 n0 _ s₁.heap _
    rw [e0]
    exact ⟨(by unfold own_min; rw [if_pos hc2]), N0, rfl⟩
  · refine Goes.pre (fun t kt => XS.icmpNo X0.here hx rfl (hb hby d1_2) rfl (Jvm.Free.XT.ii_gt_f (hc2)) kt) ?_
    show Goes p e below s _ _ _ (s₁.setTop (mkF m 5 #[.val (.int p1), .val (.int p2)] []))
    refine Goes.pre (fun t kt => XS.iloadN X0.here hx rfl (hb hby d1_5) rfl kt) ?_
    show Goes p e below s _ _ _ (s₁.setTop (mkF m 6 #[.val (.int p1), .val (.int p2)] [(.int p1)]))
    refine Goes.pre (fun t kt => XS.goto X0.here hx rfl (pc0 := 6) (pc' := 10) rfl (hb hby d1_6) (by decide) (by decide) kt) ?_
    show Goes p e below s _ _ _ (s₁.setTop (mkF m 10 #[.val (.int p1), .val (.int p2)] [(.int p1)]))
    refine Goes.ret X0 (some (.int p1)) (fun h => by rw [Bd.returns] at h; cases h) (BodyLoose.notSynchronized Bd) (by decide) (by decide) (fun fs hr => retOut X0 hx (t := .int) Bd.returns rfl (Or.inl ⟨rfl, Or.inl rfl, _, rfl⟩) (hb hby d1_10) hr) ?_
    show Q_rm1 Z p1 p2 h0 n0 _ s₁.heap _
    rw [e0]
    exact ⟨(by unfold own_min; rw [if_neg hc2]), N0, rfl⟩
theorem d2_0 : decode jdk_29_method_65_code 0 = .ok (.iload_n 0, 1) := by decide +kernel
theorem d2_1 : decode jdk_29_method_65_code 1 = .ok (.iload_n 1, 1) := by decide +kernel
theorem d2_2 : decode jdk_29_method_65_code 2 = .ok (.if_icmp .lt 7, 3) := by decide +kernel
theorem d2_9 : decode jdk_29_method_65_code 9 = .ok (.iload_n 1, 1) := by decide +kernel
theorem d2_10 : decode jdk_29_method_65_code 10 = .ok (.ireturn, 1) := by decide +kernel
theorem d2_5 : decode jdk_29_method_65_code 5 = .ok (.iload_n 0, 1) := by decide +kernel
theorem d2_6 : decode jdk_29_method_65_code 6 = .ok (.goto 4, 3) := by decide +kernel
def Q_rm2 (Z : State) (p1 : Int32) (p2 : Int32) (h0 : Heap) (n0 : Nat) (v : Option Value) (h : Heap) (L : List Loc) : Prop := v = some (.int (own_max p1 p2)) ∧ Fr n0 L ∧ h = h0
theorem ef_rm2 (m : MethodId) (p1 : Int32) (p2 : Int32) : entryFrame m #[(.int p1), (.int p2)] 2 = mkF m 0 #[.val (.int p1), .val (.int p2)] [] := by first | (simp [entryFrame, mkF, argsToLocals, Value.category]; done) | rfl
set_option maxRecDepth 65536 in
set_option maxHeartbeats 40000000 in
theorem rm2 (l : Launch) (Z : State) (a0 : Array Value) (hw : ∀ d ∈ tables_1, d.before a0 Z = true) (ws : List Jvm.Cond) (p1 : Int32) (p2 : Int32) (h0 : Heap) (n0 : Nat) (Z0 : n0 ≤ h0.size) :
    MetFree l (⟨"java/lang/Math", "max", "(II)I"⟩ : MethodName) (head1 (Jvm.Cond.code (⟨"java/lang/Math", "max", "(II)I"⟩ : MethodName) jdk_29_method_65_code 2 (some .int) :: ws) ({ frames := 0, cells := 0, slots := 0, locals := 0 } : Room)) (fun a U => a = #[(.int p1), (.int p2)] ∧ Z.Warmed39 U.vm ∧ U.heap = h0) (fun _ _ _ _ _ => True) (fun _ U o U' => ∃ v L, o = .returned v ∧ Q_rm2 Z p1 p2 h0 n0 v U'.heap L ∧ FrameEnd U o U' L ({ frames := 0, cells := 0, slots := 0, locals := 0 } : Room).cells ({ frames := 0, cells := 0, slots := 0, locals := 0 } : Room).slots) := by
  refine MetFree.of_bodySF (Jvm.Free.JP.mathPlain rfl (by decide +kernel)) hisR ?_
  intro p e s m args below meth c s₁ Bd hml0 hP hK
  obtain ⟨rfl, hZ, hh⟩ := hP
  have hx := Bd.exec
  have hby := Bd.bytes
  have hml : c.maxLocals = 2 := hml0
  have hown : s.vm.findClass "java/lang/Math" = some m.cls := findClass_of_methodNamed Bd.named
  have hnm := (name_of_methodNamed Bd.named Bd.method).1
  have X0 : Stand p l e ({ frames := 0, cells := 0, slots := 0, locals := 0 } : Room) s m #[(.int p1), (.int p2)] below meth c s₁ [] 0 0 := Stand.of_body Bd
  have e0 : s₁.heap = h0 := by rw [← hh, Bd.state]; rfl
  have N0 := Fr.nil n0
  show Goes p e below s (Q_rm2 Z p1 p2 h0 n0) ({ frames := 0, cells := 0, slots := 0, locals := 0 } : Room).cells ({ frames := 0, cells := 0, slots := 0, locals := 0 } : Room).slots (s₁.setTop (entryFrame m #[(.int p1), (.int p2)] 2))
  refine Goes.pre (fun t kt => castTop (ef_rm2 m p1 p2) kt) ?_
  show Goes p e below s _ _ _ (s₁.setTop (mkF m 0 #[.val (.int p1), .val (.int p2)] []))
  refine Goes.pre (fun t kt => XS.iloadN X0.here hx rfl (hb hby d2_0) rfl kt) ?_
  show Goes p e below s _ _ _ (s₁.setTop (mkF m 1 #[.val (.int p1), .val (.int p2)] [(.int p1)]))
  refine Goes.pre (fun t kt => XS.iloadN X0.here hx rfl (hb hby d2_1) rfl kt) ?_
  show Goes p e below s _ _ _ (s₁.setTop (mkF m 2 #[.val (.int p1), .val (.int p2)] [(.int p2), (.int p1)]))
  by_cases hc2 : p1 < p2
  · refine Goes.pre (fun t kt => XS.icmpYes X0.here hx rfl (pc0 := 2) (pc' := 9) rfl (hb hby d2_2) rfl (Jvm.Free.XT.ii_lt_t (hc2)) (by decide) (by decide) kt) ?_
    show Goes p e below s _ _ _ (s₁.setTop (mkF m 9 #[.val (.int p1), .val (.int p2)] []))
    refine Goes.pre (fun t kt => XS.iloadN X0.here hx rfl (hb hby d2_9) rfl kt) ?_
    show Goes p e below s _ _ _ (s₁.setTop (mkF m 10 #[.val (.int p1), .val (.int p2)] [(.int p2)]))
    refine Goes.ret X0 (some (.int p2)) (fun h => by rw [Bd.returns] at h; cases h) (BodyLoose.notSynchronized Bd) (by decide) (by decide) (fun fs hr => retOut X0 hx (t := .int) Bd.returns rfl (Or.inl ⟨rfl, Or.inl rfl, _, rfl⟩) (hb hby d2_10) hr) ?_
    show Q_rm2 Z p1 p2 h0 n0 _ s₁.heap _
    rw [e0]
    exact ⟨(by unfold own_max; rw [if_pos hc2]), N0, rfl⟩
  · refine Goes.pre (fun t kt => XS.icmpNo X0.here hx rfl (hb hby d2_2) rfl (Jvm.Free.XT.ii_lt_f (hc2)) kt) ?_
    show Goes p e below s _ _ _ (s₁.setTop (mkF m 5 #[.val (.int p1), .val (.int p2)] []))
    refine Goes.pre (fun t kt => XS.iloadN X0.here hx rfl (hb hby d2_5) rfl kt) ?_
    show Goes p e below s _ _ _ (s₁.setTop (mkF m 6 #[.val (.int p1), .val (.int p2)] [(.int p1)]))
    refine Goes.pre (fun t kt => XS.goto X0.here hx rfl (pc0 := 6) (pc' := 10) rfl (hb hby d2_6) (by decide) (by decide) kt) ?_
    show Goes p e below s _ _ _ (s₁.setTop (mkF m 10 #[.val (.int p1), .val (.int p2)] [(.int p1)]))
    refine Goes.ret X0 (some (.int p1)) (fun h => by rw [Bd.returns] at h; cases h) (BodyLoose.notSynchronized Bd) (by decide) (by decide) (fun fs hr => retOut X0 hx (t := .int) Bd.returns rfl (Or.inl ⟨rfl, Or.inl rfl, _, rfl⟩) (hb hby d2_10) hr) ?_
    show Q_rm2 Z p1 p2 h0 n0 _ s₁.heap _
    rw [e0]
    exact ⟨(by unfold own_max; rw [if_neg hc2]), N0, rfl⟩
theorem d4_0 : decode prog_4_method_1_code 0 = .ok (.aload_n 0, 1) := by decide +kernel
theorem d4_1 : decode prog_4_method_1_code 1 = .ok (.invokespecial 1, 3) := by decide +kernel
theorem d4_4 : decode prog_4_method_1_code 4 = .ok (.return_, 1) := by decide +kernel
theorem pn_0 : plainName "com/example/quantail/quantail/ItemArray" = true := by first | (simp [plainName, overriddenIn]; done) | decide +kernel
def Q_rm4 (Z : State) (a1 : Addr) (h0 : Heap) (n0 : Nat) (v : Option Value) (h : Heap) (L : List Loc) : Prop := v = none ∧ Fr n0 L ∧ h = h0
theorem ef_rm4 (m : MethodId) (a1 : Addr) : entryFrame m #[(.ref a1)] 1 = mkF m 0 #[.val (.ref a1)] [] := by first | (simp [entryFrame, mkF, argsToLocals, Value.category]; done) | rfl
set_option maxRecDepth 65536 in
set_option maxHeartbeats 40000000 in
theorem rm4 (l : Launch) (Z : State) (a0 : Array Value) (hw : ∀ d ∈ tables_1, d.before a0 Z = true) (ws : List Jvm.Cond) (a1 : Addr) (h0 : Heap) (n0 : Nat) (Z0 : n0 ≤ h0.size) :
    MetFree l (⟨"com/example/quantail/quantail/ItemArray", "<init>", "()V"⟩ : MethodName) (head1 (Jvm.Cond.code (⟨"com/example/quantail/quantail/ItemArray", "<init>", "()V"⟩ : MethodName) prog_4_method_1_code 1 none :: ws) ({ frames := 1, cells := 0, slots := 0, locals := 12 } : Room)) (fun a U => a = #[(.ref a1)] ∧ Z.Warmed39 U.vm ∧ U.heap = h0) (fun _ _ _ _ _ => True) (fun _ U o U' => ∃ v L, o = .returned v ∧ Q_rm4 Z a1 h0 n0 v U'.heap L ∧ FrameEnd U o U' L ({ frames := 1, cells := 0, slots := 0, locals := 12 } : Room).cells ({ frames := 1, cells := 0, slots := 0, locals := 12 } : Room).slots) := by
  refine MetFree.of_bodySF (plainFor_of_name pn_0) hisR ?_
  intro p e s m args below meth c s₁ Bd hml0 hP hK
  obtain ⟨rfl, hZ, hh⟩ := hP
  have hx := Bd.exec
  have hby := Bd.bytes
  have hml : c.maxLocals = 1 := hml0
  have hown : s.vm.findClass "com/example/quantail/quantail/ItemArray" = some m.cls := findClass_of_methodNamed Bd.named
  have hnm := (name_of_methodNamed Bd.named Bd.method).1
  have X0 : Stand p l e ({ frames := 1, cells := 0, slots := 0, locals := 12 } : Room) s m #[(.ref a1)] below meth c s₁ [] 0 0 := Stand.of_body Bd
  have e0 : s₁.heap = h0 := by rw [← hh, Bd.state]; rfl
  have N0 := Fr.nil n0
  show Goes p e below s (Q_rm4 Z a1 h0 n0) ({ frames := 1, cells := 0, slots := 0, locals := 12 } : Room).cells ({ frames := 1, cells := 0, slots := 0, locals := 12 } : Room).slots (s₁.setTop (entryFrame m #[(.ref a1)] 1))
  refine Goes.pre (fun t kt => castTop (ef_rm4 m a1) kt) ?_
  show Goes p e below s _ _ _ (s₁.setTop (mkF m 0 #[.val (.ref a1)] []))
  refine Goes.pre (fun t kt => XS.aloadN X0.here hx rfl (hb hby d4_0) rfl rfl kt) ?_
  show Goes p e below s _ _ _ (s₁.setTop (mkF m 1 #[.val (.ref a1)] [(.ref a1)]))
  obtain ⟨T1, X1, e1, st1⟩ := initO X0 hx hZ hown (hw _ (List.mem_of_getElem? (i := 20) rfl)) (hw _ (List.mem_of_getElem? (i := 21) rfl)) (hw _ (List.mem_of_getElem? (i := 22) rfl)) e0 (g := (mkF m 1 #[.val (.ref a1)] [(.ref a1)])) rfl (by rw [hml]; rfl) rfl (hb hby d4_1) (by decide) (W := 0) (by show 2 * 0 + _ ≤ _; exact Nat.le_of_eq rfl) (by decide)
  refine Goes.pre st1 ?_
  show Goes p e below s _ _ _ (T1.setTop (mkF m 4 #[.val (.ref a1)] []))
  refine Goes.ret X1 none (fun _ => rfl) (BodyLoose.notSynchronized Bd) (by decide) (by decide) (fun fs hr => X1.returnOut hx Bd.returns (hb hby d4_4) hr) ?_
  show Q_rm4 Z a1 h0 n0 _ T1.heap _
  rw [e1]
  exact ⟨rfl, N0, rfl⟩
theorem d11_0 : decode jdk_18_method_1_code 0 = .ok (.aload_n 0, 1) := by decide +kernel
theorem d11_1 : decode jdk_18_method_1_code 1 = .ok (.invokespecial 1, 3) := by decide +kernel
theorem d11_4 : decode jdk_18_method_1_code 4 = .ok (.return_, 1) := by decide +kernel
theorem pn_1 : plainName "java/lang/Number" = true := by first | (simp [plainName, overriddenIn]; done) | decide +kernel
def Q_rm11 (Z : State) (a1 : Addr) (h0 : Heap) (n0 : Nat) (v : Option Value) (h : Heap) (L : List Loc) : Prop := v = none ∧ Fr n0 L ∧ h = h0
theorem ef_rm11 (m : MethodId) (a1 : Addr) : entryFrame m #[(.ref a1)] 1 = mkF m 0 #[.val (.ref a1)] [] := by first | (simp [entryFrame, mkF, argsToLocals, Value.category]; done) | rfl
set_option maxRecDepth 65536 in
set_option maxHeartbeats 40000000 in
theorem rm11 (l : Launch) (Z : State) (a0 : Array Value) (hw : ∀ d ∈ tables_1, d.before a0 Z = true) (ws : List Jvm.Cond) (a1 : Addr) (h0 : Heap) (n0 : Nat) (Z0 : n0 ≤ h0.size) :
    MetFree l (⟨"java/lang/Number", "<init>", "()V"⟩ : MethodName) (head1 (Jvm.Cond.code (⟨"java/lang/Number", "<init>", "()V"⟩ : MethodName) jdk_18_method_1_code 1 none :: ws) ({ frames := 1, cells := 0, slots := 0, locals := 12 } : Room)) (fun a U => a = #[(.ref a1)] ∧ Z.Warmed39 U.vm ∧ U.heap = h0) (fun _ _ _ _ _ => True) (fun _ U o U' => ∃ v L, o = .returned v ∧ Q_rm11 Z a1 h0 n0 v U'.heap L ∧ FrameEnd U o U' L ({ frames := 1, cells := 0, slots := 0, locals := 12 } : Room).cells ({ frames := 1, cells := 0, slots := 0, locals := 12 } : Room).slots) := by
  refine MetFree.of_bodySF (plainFor_of_name pn_1) hisR ?_
  intro p e s m args below meth c s₁ Bd hml0 hP hK
  obtain ⟨rfl, hZ, hh⟩ := hP
  have hx := Bd.exec
  have hby := Bd.bytes
  have hml : c.maxLocals = 1 := hml0
  have hown : s.vm.findClass "java/lang/Number" = some m.cls := findClass_of_methodNamed Bd.named
  have hnm := (name_of_methodNamed Bd.named Bd.method).1
  have X0 : Stand p l e ({ frames := 1, cells := 0, slots := 0, locals := 12 } : Room) s m #[(.ref a1)] below meth c s₁ [] 0 0 := Stand.of_body Bd
  have e0 : s₁.heap = h0 := by rw [← hh, Bd.state]; rfl
  have N0 := Fr.nil n0
  show Goes p e below s (Q_rm11 Z a1 h0 n0) ({ frames := 1, cells := 0, slots := 0, locals := 12 } : Room).cells ({ frames := 1, cells := 0, slots := 0, locals := 12 } : Room).slots (s₁.setTop (entryFrame m #[(.ref a1)] 1))
  refine Goes.pre (fun t kt => castTop (ef_rm11 m a1) kt) ?_
  show Goes p e below s _ _ _ (s₁.setTop (mkF m 0 #[.val (.ref a1)] []))
  refine Goes.pre (fun t kt => XS.aloadN X0.here hx rfl (hb hby d11_0) rfl rfl kt) ?_
  show Goes p e below s _ _ _ (s₁.setTop (mkF m 1 #[.val (.ref a1)] [(.ref a1)]))
  obtain ⟨T1, X1, e1, st1⟩ := initO X0 hx hZ hown (hw _ (List.mem_of_getElem? (i := 56) rfl)) (hw _ (List.mem_of_getElem? (i := 21) rfl)) (hw _ (List.mem_of_getElem? (i := 22) rfl)) e0 (g := (mkF m 1 #[.val (.ref a1)] [(.ref a1)])) rfl (by rw [hml]; rfl) rfl (hb hby d11_1) (by decide) (W := 0) (by show 2 * 0 + _ ≤ _; exact Nat.le_of_eq rfl) (by decide)
  refine Goes.pre st1 ?_
  show Goes p e below s _ _ _ (T1.setTop (mkF m 4 #[.val (.ref a1)] []))
  refine Goes.ret X1 none (fun _ => rfl) (BodyLoose.notSynchronized Bd) (by decide) (by decide) (fun fs hr => X1.returnOut hx Bd.returns (hb hby d11_4) hr) ?_
  show Q_rm11 Z a1 h0 n0 _ T1.heap _
  rw [e1]
  exact ⟨rfl, N0, rfl⟩
theorem d3_0 : decode prog_9_method_1_code 0 = .ok (.aload_n 0, 1) := by decide +kernel
theorem d3_1 : decode prog_9_method_1_code 1 = .ok (.invokespecial 1, 3) := by decide +kernel
theorem pd_2 : parseMethodDescriptor "()V" = some ⟨[], none⟩ := by decide +kernel
theorem d3_4 : decode prog_9_method_1_code 4 = .ok (.aload_n 0, 1) := by decide +kernel
theorem d3_5 : decode prog_9_method_1_code 5 = .ok (.iload_n 1, 1) := by decide +kernel
theorem d3_6 : decode prog_9_method_1_code 6 = .ok (.newarray .double, 2) := by decide +kernel
theorem d3_8 : decode prog_9_method_1_code 8 = .ok (.putfield 7, 3) := by decide +kernel
theorem d3_11 : decode prog_9_method_1_code 11 = .ok (.return_, 1) := by decide +kernel
theorem pn_3 : plainName "com/example/quantail/quantail/NumberArray" = true := by first | (simp [plainName, overriddenIn]; done) | decide +kernel
def Q_rm3 (Z : State) (a1 : Addr) (h0 : Heap) (n0 : Nat) (v : Option Value) (h : Heap) (L : List Loc) : Prop := ∃ it : Addr, ∃ kd : ClassId, v = none ∧ Fr n0 L ∧ Keep h0 h [a1] ∧ (h0.size ≤ it) ∧ (n0 ≤ it) ∧ (Fld Z h a1 "com/example/quantail/quantail/NumberArray" "items" "[D" (.ref it)) ∧ (Arv Z h it kd .double (4 : Int32) [(.double (0 : UInt64)), (.double (0 : UInt64)), (.double (0 : UInt64)), (.double (0 : UInt64))] (.double (0 : UInt64)))
theorem ef_rm3 (m : MethodId) (a1 : Addr) : entryFrame m #[(.ref a1), (.int (4 : Int32))] 2 = mkF m 0 #[.val (.ref a1), .val (.int (4 : Int32))] [] := by first | (simp [entryFrame, mkF, argsToLocals, Value.category]; done) | rfl
set_option maxRecDepth 65536 in
set_option maxHeartbeats 40000000 in
theorem rm3 (l : Launch) (Z : State) (a0 : Array Value) (hw : ∀ d ∈ tables_1, d.before a0 Z = true) (ws : List Jvm.Cond) (a1 : Addr) (h0 : Heap) (n0 : Nat) (Z0 : n0 ≤ h0.size) (pf_E_a1 : Exa Z h0 a1 "com/example/quantail/quantail/NumberArray") (pf_G_a1 : n0 ≤ a1) (pf_F_a1_com_example_quantail_quantail_NumberArray_items : Fld Z h0 a1 "com/example/quantail/quantail/NumberArray" "items" "[D" .null) :
    MetFree l (⟨"com/example/quantail/quantail/NumberArray", "<init>", "(I)V"⟩ : MethodName) (head1 (Jvm.Cond.code (⟨"com/example/quantail/quantail/NumberArray", "<init>", "(I)V"⟩ : MethodName) prog_9_method_1_code 2 none :: ws) ({ frames := 2, cells := 1, slots := 4, locals := 24 } : Room)) (fun a U => a = #[(.ref a1), (.int (4 : Int32))] ∧ Z.Warmed39 U.vm ∧ U.heap = h0) (fun _ _ _ _ _ => True) (fun _ U o U' => ∃ v L, o = .returned v ∧ Q_rm3 Z a1 h0 n0 v U'.heap L ∧ FrameEnd U o U' L ({ frames := 2, cells := 1, slots := 4, locals := 24 } : Room).cells ({ frames := 2, cells := 1, slots := 4, locals := 24 } : Room).slots) := by
  refine MetFree.of_bodySF (plainFor_of_name pn_3) hisR ?_
  intro p e s m args below meth c s₁ Bd hml0 hP hK
  obtain ⟨rfl, hZ, hh⟩ := hP
  have hx := Bd.exec
  have hby := Bd.bytes
  have hml : c.maxLocals = 2 := hml0
  have hown : s.vm.findClass "com/example/quantail/quantail/NumberArray" = some m.cls := findClass_of_methodNamed Bd.named
  have hnm := (name_of_methodNamed Bd.named Bd.method).1
  have X0 : Stand p l e ({ frames := 2, cells := 1, slots := 4, locals := 24 } : Room) s m #[(.ref a1), (.int (4 : Int32))] below meth c s₁ [] 0 0 := Stand.of_body Bd
  have e0 : s₁.heap = h0 := by rw [← hh, Bd.state]; rfl
  have N0 := Fr.nil n0
  have K0 := Keep.refl h0 [a1]
  show Goes p e below s (Q_rm3 Z a1 h0 n0) ({ frames := 2, cells := 1, slots := 4, locals := 24 } : Room).cells ({ frames := 2, cells := 1, slots := 4, locals := 24 } : Room).slots (s₁.setTop (entryFrame m #[(.ref a1), (.int (4 : Int32))] 2))
  refine Goes.pre (fun t kt => castTop (ef_rm3 m a1) kt) ?_
  show Goes p e below s _ _ _ (s₁.setTop (mkF m 0 #[.val (.ref a1), .val (.int (4 : Int32))] []))
  refine Goes.pre (fun t kt => XS.aloadN X0.here hx rfl (hb hby d3_0) rfl rfl kt) ?_
  show Goes p e below s _ _ _ (s₁.setTop (mkF m 1 #[.val (.ref a1), .val (.int (4 : Int32))] [(.ref a1)]))
  obtain ⟨_, _, ⟨T1, L1, k1, n1⟩, -, X1, ⟨Lc1, hQ1, l1, y1, z1⟩, st1⟩ := X0.specialBack hx (y := (⟨"com/example/quantail/quantail/ItemArray", "<init>", "()V"⟩ : MethodName)) rfl hown (mvT hZ (hw _ (List.mem_of_getElem? (i := 15) rfl))) (mvT hZ (hw _ (List.mem_of_getElem? (i := 16) rfl))) (mvT hZ (hw _ (List.mem_of_getElem? (i := 19) rfl))) (by decide) (backOf (W := 0) (rm4 l Z a0 hw [] a1 h0 n0 Z0 ) hZ (hw _ (List.mem_of_getElem? (i := 19) rfl)) (hw _ (List.mem_of_getElem? (i := 18) rfl)) (by decide) (by decide)) (g := (mkF m 1 #[.val (.ref a1), .val (.int (4 : Int32))] [(.ref a1)])) rfl (by rw [hml]; rfl) (Steps.refl _) (a := a1) (argsL := []) (rest := []) (lenOf pd_2 rfl) rfl (by show 2 * 0 + _ ≤ _; exact Nat.le_of_eq rfl) (hb hby d3_1) (fun _ _ => ⟨rfl, e0, (by decide : 0 + 0 ≤ _), (by decide : 0 + 0 ≤ _)⟩)
  dsimp only [Pt.U, Pt.locs, Pt.cells, Pt.slots] at X1 l1 y1 z1 st1 hQ1
  rw [l1, y1, z1] at X1
  obtain ⟨rfl, Nq1, eq1⟩ := hQ1
  refine Goes.run st1 ?_
  have N1 := Fr.app N0 Nq1
  show Goes p e below s _ _ _ (T1.setTop (mkF m 4 #[.val (.ref a1), .val (.int (4 : Int32))] []))
  refine Goes.pre (fun t kt => XS.aloadN X1.here hx rfl (hb hby d3_4) rfl rfl kt) ?_
  show Goes p e below s _ _ _ (T1.setTop (mkF m 5 #[.val (.ref a1), .val (.int (4 : Int32))] [(.ref a1)]))
  refine Goes.pre (fun t kt => XS.iloadN X1.here hx rfl (hb hby d3_5) rfl kt) ?_
  show Goes p e below s _ _ _ (T1.setTop (mkF m 6 #[.val (.ref a1), .val (.int (4 : Int32))] [(.int (4 : Int32)), (.ref a1)]))
  obtain ⟨T2, h2, k2, X2, e2, E2, A2, st2⟩ := newP X1 hx hZ (hw _ (List.mem_of_getElem? (i := 0) rfl)) eq1 (g := (mkF m 6 #[.val (.ref a1), .val (.int (4 : Int32))] [(.int (4 : Int32)), (.ref a1)])) rfl (hb hby d3_6) rfl (by decide) (cap := 4) (by decide) (by decide) (by decide) (by decide)
  obtain ⟨b2, g2⟩ : ∃ z, z = h0.size := ⟨_, rfl⟩
  rw [← g2] at A2 st2
  have lta1_2 : a1 < b2 := Nat.lt_of_lt_of_le pf_E_a1.lt (Nat.le_of_eq g2.symm)
  have gg2 : n0 ≤ b2 := Nat.le_trans Z0 (Nat.le_of_eq g2.symm)
  have sz2 : h0.size ≤ b2 := Nat.le_trans K0.1 (Nat.le_of_eq g2.symm)
  have Z2 : n0 ≤ h2.size := Nat.le_trans Z0 E2.1
  have K2 := K0.ext E2
  refine Goes.pre st2 ?_
  have V2 : Arv Z h2 b2 k2 .double (4 : Int32) [(.double (0 : UInt64)), (.double (0 : UInt64)), (.double (0 : UInt64)), (.double (0 : UInt64))] (.double (0 : UInt64)) := (Arv.new A2 (by decide)).pad (pad_rep [] (.double (0 : UInt64)) 4)
  show Goes p e below s _ _ _ (T2.setTop (mkF m 8 #[.val (.ref a1), .val (.int (4 : Int32))] [(.ref b2), (.ref a1)]))
  have fc3 : Fld Z h2 a1 "com/example/quantail/quantail/NumberArray" "items" "[D" .null := (pf_F_a1_com_example_quantail_quantail_NumberArray_items.ext E2)
  have fc4 : Exa Z h2 a1 "com/example/quantail/quantail/NumberArray" := (pf_E_a1.ext E2)
  obtain ⟨T5, h5, X5, e5, W5, st5⟩ := putF X2 hx hZ hown (host := "") (Or.inl (hw _ (List.mem_of_getElem? (i := 23) rfl))) Via.refl e2 fc3 fc4 (Or.inl (hw _ (List.mem_of_getElem? (i := 24) rfl))) (hw _ (List.mem_of_getElem? (i := 10) rfl)) (ty := (.array .double)) (by decide) rfl rfl (g := (mkF m 8 #[.val (.ref a1), .val (.int (4 : Int32))] [(.ref b2), (.ref a1)])) rfl rfl (hb hby d3_8)
  refine Goes.pre st5 ?_
  have Z5 : n0 ≤ h5.size := Nat.le_trans Z2 (Keep.of_wr W5).1
  have N5 := Fr.snoc X5 N1 pf_G_a1
  have K5 := K2.wr W5 (Or.inl (List.mem_of_getElem? (i := 0) rfl))
  have Fw5 : Fld Z h5 a1 "com/example/quantail/quantail/NumberArray" "items" "[D" (.ref b2) := fc3.same W5
  show Goes p e below s _ _ _ (T5.setTop (mkF m 11 #[.val (.ref a1), .val (.int (4 : Int32))] []))
  have fc6 : Arv Z h5 b2 k2 .double (4 : Int32) [(.double (0 : UInt64)), (.double (0 : UInt64)), (.double (0 : UInt64)), (.double (0 : UInt64))] (.double (0 : UInt64)) := (V2.other W5 (Nat.ne_of_gt lta1_2))
  refine Goes.ret X5 none (fun _ => rfl) (BodyLoose.notSynchronized Bd) (by decide) (by decide) (fun fs hr => X5.returnOut hx Bd.returns (hb hby d3_11) hr) ?_
  show Q_rm3 Z a1 h0 n0 _ T5.heap _
  rw [e5]
  exact ⟨b2, k2, rfl, N5, K5, sz2, gg2, Fw5, fc6⟩
theorem d6_0 : decode prog_9_method_8_code 0 = .ok (.aload_n 0, 1) := by decide +kernel
theorem d6_1 : decode prog_9_method_8_code 1 = .ok (.getfield 7, 3) := by decide +kernel
theorem d6_4 : decode prog_9_method_8_code 4 = .ok (.iload_n 1, 1) := by decide +kernel
theorem d6_5 : decode prog_9_method_8_code 5 = .ok (.dload_n 2, 1) := by decide +kernel
theorem d6_6 : decode prog_9_method_8_code 6 = .ok (.dastore, 1) := by decide +kernel
theorem d6_7 : decode prog_9_method_8_code 7 = .ok (.return_, 1) := by decide +kernel
def Q_rm6_0 (Z : State) (a1 : Addr) (dd : UInt64) (it : Addr) (kd : ClassId) (w0 : UInt64) (w1 : UInt64) (w2 : UInt64) (w3 : UInt64) (h0 : Heap) (n0 : Nat) (v : Option Value) (h : Heap) (L : List Loc) : Prop := v = none ∧ Fr n0 L ∧ Keep h0 h [it] ∧ (Arv Z h it kd .double (4 : Int32) [(.double dd), (.double w1), (.double w2), (.double w3)] (.double (0 : UInt64)))
theorem ef_rm6_0 (m : MethodId) (a1 : Addr) (dd : UInt64) : entryFrame m #[(.ref a1), (.int (0 : Int32)), (.double dd)] 4 = mkF m 0 #[.val (.ref a1), .val (.int (0 : Int32)), .val (.double dd), .second] [] := by first | (simp [entryFrame, mkF, argsToLocals, Value.category]; done) | rfl
set_option maxRecDepth 65536 in
set_option maxHeartbeats 40000000 in
theorem rm6_0 (l : Launch) (Z : State) (a0 : Array Value) (hw : ∀ d ∈ tables_1, d.before a0 Z = true) (ws : List Jvm.Cond) (a1 : Addr) (dd : UInt64) (it : Addr) (kd : ClassId) (w0 : UInt64) (w1 : UInt64) (w2 : UInt64) (w3 : UInt64) (h0 : Heap) (n0 : Nat) (Z0 : n0 ≤ h0.size) (pf_F_a1_com_example_quantail_quantail_NumberArray_items : Fld Z h0 a1 "com/example/quantail/quantail/NumberArray" "items" "[D" (.ref it)) (pf_V_it : Arv Z h0 it kd .double (4 : Int32) [(.double w0), (.double w1), (.double w2), (.double w3)] (.double (0 : UInt64))) (pf_G_it : n0 ≤ it) :
    MetFree l (⟨"com/example/quantail/quantail/NumberArray", "setNumber", "(ID)V"⟩ : MethodName) (head1 (Jvm.Cond.code (⟨"com/example/quantail/quantail/NumberArray", "setNumber", "(ID)V"⟩ : MethodName) prog_9_method_8_code 4 none :: ws) ({ frames := 0, cells := 0, slots := 0, locals := 0 } : Room)) (fun a U => a = #[(.ref a1), (.int (0 : Int32)), (.double dd)] ∧ Z.Warmed39 U.vm ∧ U.heap = h0) (fun _ _ _ _ _ => True) (fun _ U o U' => ∃ v L, o = .returned v ∧ Q_rm6_0 Z a1 dd it kd w0 w1 w2 w3 h0 n0 v U'.heap L ∧ FrameEnd U o U' L ({ frames := 0, cells := 0, slots := 0, locals := 0 } : Room).cells ({ frames := 0, cells := 0, slots := 0, locals := 0 } : Room).slots) := by
  refine MetFree.of_bodySF (plainFor_of_name pn_3) hisR ?_
  intro p e s m args below meth c s₁ Bd hml0 hP hK
  obtain ⟨rfl, hZ, hh⟩ := hP
  have hx := Bd.exec
  have hby := Bd.bytes
  have hml : c.maxLocals = 4 := hml0
  have hown : s.vm.findClass "com/example/quantail/quantail/NumberArray" = some m.cls := findClass_of_methodNamed Bd.named
  have hnm := (name_of_methodNamed Bd.named Bd.method).1
  have X0 : Stand p l e ({ frames := 0, cells := 0, slots := 0, locals := 0 } : Room) s m #[(.ref a1), (.int (0 : Int32)), (.double dd)] below meth c s₁ [] 0 0 := Stand.of_body Bd
  have e0 : s₁.heap = h0 := by rw [← hh, Bd.state]; rfl
  have N0 := Fr.nil n0
  have K0 := Keep.refl h0 [it]
  show Goes p e below s (Q_rm6_0 Z a1 dd it kd w0 w1 w2 w3 h0 n0) ({ frames := 0, cells := 0, slots := 0, locals := 0 } : Room).cells ({ frames := 0, cells := 0, slots := 0, locals := 0 } : Room).slots (s₁.setTop (entryFrame m #[(.ref a1), (.int (0 : Int32)), (.double dd)] 4))
  refine Goes.pre (fun t kt => castTop (ef_rm6_0 m a1 dd) kt) ?_
  show Goes p e below s _ _ _ (s₁.setTop (mkF m 0 #[.val (.ref a1), .val (.int (0 : Int32)), .val (.double dd), .second] []))
  refine Goes.pre (fun t kt => XS.aloadN X0.here hx rfl (hb hby d6_0) rfl rfl kt) ?_
  show Goes p e below s _ _ _ (s₁.setTop (mkF m 1 #[.val (.ref a1), .val (.int (0 : Int32)), .val (.double dd), .second] [(.ref a1)]))
  obtain ⟨T1, X1, e1, st1⟩ := getF X0 hx hZ hown (host := "") (Or.inl (hw _ (List.mem_of_getElem? (i := 23) rfl))) Via.refl e0 pf_F_a1_com_example_quantail_quantail_NumberArray_items (g := (mkF m 1 #[.val (.ref a1), .val (.int (0 : Int32)), .val (.double dd), .second] [(.ref a1)])) rfl rfl (hb hby d6_1)
  refine Goes.pre st1 ?_
  show Goes p e below s _ _ _ (T1.setTop (mkF m 4 #[.val (.ref a1), .val (.int (0 : Int32)), .val (.double dd), .second] [(.ref it)]))
  refine Goes.pre (fun t kt => XS.iloadN X1.here hx rfl (hb hby d6_4) rfl kt) ?_
  show Goes p e below s _ _ _ (T1.setTop (mkF m 5 #[.val (.ref a1), .val (.int (0 : Int32)), .val (.double dd), .second] [(.int (0 : Int32)), (.ref it)]))
  refine Goes.pre (fun t kt => XS.dloadN X1.here hx rfl (hb hby d6_5) rfl kt) ?_
  show Goes p e below s _ _ _ (T1.setTop (mkF m 6 #[.val (.ref a1), .val (.int (0 : Int32)), .val (.double dd), .second] [(.double dd), (.int (0 : Int32)), (.ref it)]))
  obtain ⟨cl2, Ar2, aq2, aS2, aN2, aH2, aG2⟩ := pf_V_it
  have hin2 : ¬ ((0 : Int32) < 0 ∨ cl2.slots.size ≤ ((0 : Int32)).toNatClampNeg) := inb_of aS2 ⟨by decide, by decide⟩
  obtain ⟨T2, h2, X2, e2, W2, st2⟩ := stD X1 hx hZ e1 Ar2 (j := (0 : Int32)) hin2 (g := (mkF m 6 #[.val (.ref a1), .val (.int (0 : Int32)), .val (.double dd), .second] [(.double dd), (.int (0 : Int32)), (.ref it)])) rfl rfl (hb hby d6_6)
  refine Goes.pre st2 ?_
  have Z2 : n0 ≤ h2.size := Nat.le_trans Z0 (Keep.of_wr W2).1
  have N2 := Fr.snoc X2 N0 pf_G_it
  have K2 := K0.wr W2 (Or.inl (List.mem_of_getElem? (i := 0) rfl))
  have V2 : Arv Z h2 it kd .double (4 : Int32) [(.double dd), (.double w1), (.double w2), (.double w3)] (.double (0 : UInt64)) := Arv.set Ar2 aq2 aS2 aN2 aH2 aG2 rfl W2 0 rfl (Nat.le_of_ble_eq_true rfl)
  show Goes p e below s _ _ _ (T2.setTop (mkF m 7 #[.val (.ref a1), .val (.int (0 : Int32)), .val (.double dd), .second] []))
  refine Goes.ret X2 none (fun _ => rfl) (BodyLoose.notSynchronized Bd) (by decide) (by decide) (fun fs hr => X2.returnOut hx Bd.returns (hb hby d6_7) hr) ?_
  show Q_rm6_0 Z a1 dd it kd w0 w1 w2 w3 h0 n0 _ T2.heap _
  rw [e2]
  exact ⟨rfl, N2, K2, V2⟩
def Q_rm6_1 (Z : State) (a1 : Addr) (dd : UInt64) (it : Addr) (kd : ClassId) (w0 : UInt64) (w1 : UInt64) (w2 : UInt64) (w3 : UInt64) (h0 : Heap) (n0 : Nat) (v : Option Value) (h : Heap) (L : List Loc) : Prop := v = none ∧ Fr n0 L ∧ Keep h0 h [it] ∧ (Arv Z h it kd .double (4 : Int32) [(.double w0), (.double dd), (.double w2), (.double w3)] (.double (0 : UInt64)))
theorem ef_rm6_1 (m : MethodId) (a1 : Addr) (dd : UInt64) : entryFrame m #[(.ref a1), (.int (1 : Int32)), (.double dd)] 4 = mkF m 0 #[.val (.ref a1), .val (.int (1 : Int32)), .val (.double dd), .second] [] := by first | (simp [entryFrame, mkF, argsToLocals, Value.category]; done) | rfl
set_option maxRecDepth 65536 in
set_option maxHeartbeats 40000000 in
theorem rm6_1 (l : Launch) (Z : State) (a0 : Array Value) (hw : ∀ d ∈ tables_1, d.before a0 Z = true) (ws : List Jvm.Cond) (a1 : Addr) (dd : UInt64) (it : Addr) (kd : ClassId) (w0 : UInt64) (w1 : UInt64) (w2 : UInt64) (w3 : UInt64) (h0 : Heap) (n0 : Nat) (Z0 : n0 ≤ h0.size) (pf_F_a1_com_example_quantail_quantail_NumberArray_items : Fld Z h0 a1 "com/example/quantail/quantail/NumberArray" "items" "[D" (.ref it)) (pf_V_it : Arv Z h0 it kd .double (4 : Int32) [(.double w0), (.double w1), (.double w2), (.double w3)] (.double (0 : UInt64))) (pf_G_it : n0 ≤ it) :
    MetFree l (⟨"com/example/quantail/quantail/NumberArray", "setNumber", "(ID)V"⟩ : MethodName) (head1 (Jvm.Cond.code (⟨"com/example/quantail/quantail/NumberArray", "setNumber", "(ID)V"⟩ : MethodName) prog_9_method_8_code 4 none :: ws) ({ frames := 0, cells := 0, slots := 0, locals := 0 } : Room)) (fun a U => a = #[(.ref a1), (.int (1 : Int32)), (.double dd)] ∧ Z.Warmed39 U.vm ∧ U.heap = h0) (fun _ _ _ _ _ => True) (fun _ U o U' => ∃ v L, o = .returned v ∧ Q_rm6_1 Z a1 dd it kd w0 w1 w2 w3 h0 n0 v U'.heap L ∧ FrameEnd U o U' L ({ frames := 0, cells := 0, slots := 0, locals := 0 } : Room).cells ({ frames := 0, cells := 0, slots := 0, locals := 0 } : Room).slots) := by
  refine MetFree.of_bodySF (plainFor_of_name pn_3) hisR ?_
  intro p e s m args below meth c s₁ Bd hml0 hP hK
  obtain ⟨rfl, hZ, hh⟩ := hP
  have hx := Bd.exec
  have hby := Bd.bytes
  have hml : c.maxLocals = 4 := hml0
  have hown : s.vm.findClass "com/example/quantail/quantail/NumberArray" = some m.cls := findClass_of_methodNamed Bd.named
  have hnm := (name_of_methodNamed Bd.named Bd.method).1
  have X0 : Stand p l e ({ frames := 0, cells := 0, slots := 0, locals := 0 } : Room) s m #[(.ref a1), (.int (1 : Int32)), (.double dd)] below meth c s₁ [] 0 0 := Stand.of_body Bd
  have e0 : s₁.heap = h0 := by rw [← hh, Bd.state]; rfl
  have N0 := Fr.nil n0
  have K0 := Keep.refl h0 [it]
  show Goes p e below s (Q_rm6_1 Z a1 dd it kd w0 w1 w2 w3 h0 n0) ({ frames := 0, cells := 0, slots := 0, locals := 0 } : Room).cells ({ frames := 0, cells := 0, slots := 0, locals := 0 } : Room).slots (s₁.setTop (entryFrame m #[(.ref a1), (.int (1 : Int32)), (.double dd)] 4))
  refine Goes.pre (fun t kt => castTop (ef_rm6_1 m a1 dd) kt) ?_
  show Goes p e below s _ _ _ (s₁.setTop (mkF m 0 #[.val (.ref a1), .val (.int (1 : Int32)), .val (.double dd), .second] []))
  refine Goes.pre (fun t kt => XS.aloadN X0.here hx rfl (hb hby d6_0) rfl rfl kt) ?_
  show Goes p e below s _ _ _ (s₁.setTop (mkF m 1 #[.val (.ref a1), .val (.int (1 : Int32)), .val (.double dd), .second] [(.ref a1)]))
  obtain ⟨T1, X1, e1, st1⟩ := getF X0 hx hZ hown (host := "") (Or.inl (hw _ (List.mem_of_getElem? (i := 23) rfl))) Via.refl e0 pf_F_a1_com_example_quantail_quantail_NumberArray_items (g := (mkF m 1 #[.val (.ref a1), .val (.int (1 : Int32)), .val (.double dd), .second] [(.ref a1)])) rfl rfl (hb hby d6_1)
  refine Goes.pre st1 ?_
  show Goes p e below s _ _ _ (T1.setTop (mkF m 4 #[.val (.ref a1), .val (.int (1 : Int32)), .val (.double dd), .second] [(.ref it)]))
  refine Goes.pre (fun t kt => XS.iloadN X1.here hx rfl (hb hby d6_4) rfl kt) ?_
  show Goes p e below s _ _ _ (T1.setTop (mkF m 5 #[.val (.ref a1), .val (.int (1 : Int32)), .val (.double dd), .second] [(.int (1 : Int32)), (.ref it)]))
  refine Goes.pre (fun t kt => XS.dloadN X1.here hx rfl (hb hby d6_5) rfl kt) ?_
  show Goes p e below s _ _ _ (T1.setTop (mkF m 6 #[.val (.ref a1), .val (.int (1 : Int32)), .val (.double dd), .second] [(.double dd), (.int (1 : Int32)), (.ref it)]))
  obtain ⟨cl2, Ar2, aq2, aS2, aN2, aH2, aG2⟩ := pf_V_it
  have hin2 : ¬ ((1 : Int32) < 0 ∨ cl2.slots.size ≤ ((1 : Int32)).toNatClampNeg) := inb_of aS2 ⟨by decide, by decide⟩
  obtain ⟨T2, h2, X2, e2, W2, st2⟩ := stD X1 hx hZ e1 Ar2 (j := (1 : Int32)) hin2 (g := (mkF m 6 #[.val (.ref a1), .val (.int (1 : Int32)), .val (.double dd), .second] [(.double dd), (.int (1 : Int32)), (.ref it)])) rfl rfl (hb hby d6_6)
  refine Goes.pre st2 ?_
  have Z2 : n0 ≤ h2.size := Nat.le_trans Z0 (Keep.of_wr W2).1
  have N2 := Fr.snoc X2 N0 pf_G_it
  have K2 := K0.wr W2 (Or.inl (List.mem_of_getElem? (i := 0) rfl))
  have V2 : Arv Z h2 it kd .double (4 : Int32) [(.double w0), (.double dd), (.double w2), (.double w3)] (.double (0 : UInt64)) := Arv.set Ar2 aq2 aS2 aN2 aH2 aG2 rfl W2 1 rfl (Nat.le_of_ble_eq_true rfl)
  show Goes p e below s _ _ _ (T2.setTop (mkF m 7 #[.val (.ref a1), .val (.int (1 : Int32)), .val (.double dd), .second] []))
  refine Goes.ret X2 none (fun _ => rfl) (BodyLoose.notSynchronized Bd) (by decide) (by decide) (fun fs hr => X2.returnOut hx Bd.returns (hb hby d6_7) hr) ?_
  show Q_rm6_1 Z a1 dd it kd w0 w1 w2 w3 h0 n0 _ T2.heap _
  rw [e2]
  exact ⟨rfl, N2, K2, V2⟩
def Q_rm6_2 (Z : State) (a1 : Addr) (dd : UInt64) (it : Addr) (kd : ClassId) (w0 : UInt64) (w1 : UInt64) (w2 : UInt64) (w3 : UInt64) (h0 : Heap) (n0 : Nat) (v : Option Value) (h : Heap) (L : List Loc) : Prop := v = none ∧ Fr n0 L ∧ Keep h0 h [it] ∧ (Arv Z h it kd .double (4 : Int32) [(.double w0), (.double w1), (.double dd), (.double w3)] (.double (0 : UInt64)))
theorem ef_rm6_2 (m : MethodId) (a1 : Addr) (dd : UInt64) : entryFrame m #[(.ref a1), (.int (2 : Int32)), (.double dd)] 4 = mkF m 0 #[.val (.ref a1), .val (.int (2 : Int32)), .val (.double dd), .second] [] := by first | (simp [entryFrame, mkF, argsToLocals, Value.category]; done) | rfl
set_option maxRecDepth 65536 in
set_option maxHeartbeats 40000000 in
theorem rm6_2 (l : Launch) (Z : State) (a0 : Array Value) (hw : ∀ d ∈ tables_1, d.before a0 Z = true) (ws : List Jvm.Cond) (a1 : Addr) (dd : UInt64) (it : Addr) (kd : ClassId) (w0 : UInt64) (w1 : UInt64) (w2 : UInt64) (w3 : UInt64) (h0 : Heap) (n0 : Nat) (Z0 : n0 ≤ h0.size) (pf_F_a1_com_example_quantail_quantail_NumberArray_items : Fld Z h0 a1 "com/example/quantail/quantail/NumberArray" "items" "[D" (.ref it)) (pf_V_it : Arv Z h0 it kd .double (4 : Int32) [(.double w0), (.double w1), (.double w2), (.double w3)] (.double (0 : UInt64))) (pf_G_it : n0 ≤ it) :
    MetFree l (⟨"com/example/quantail/quantail/NumberArray", "setNumber", "(ID)V"⟩ : MethodName) (head1 (Jvm.Cond.code (⟨"com/example/quantail/quantail/NumberArray", "setNumber", "(ID)V"⟩ : MethodName) prog_9_method_8_code 4 none :: ws) ({ frames := 0, cells := 0, slots := 0, locals := 0 } : Room)) (fun a U => a = #[(.ref a1), (.int (2 : Int32)), (.double dd)] ∧ Z.Warmed39 U.vm ∧ U.heap = h0) (fun _ _ _ _ _ => True) (fun _ U o U' => ∃ v L, o = .returned v ∧ Q_rm6_2 Z a1 dd it kd w0 w1 w2 w3 h0 n0 v U'.heap L ∧ FrameEnd U o U' L ({ frames := 0, cells := 0, slots := 0, locals := 0 } : Room).cells ({ frames := 0, cells := 0, slots := 0, locals := 0 } : Room).slots) := by
  refine MetFree.of_bodySF (plainFor_of_name pn_3) hisR ?_
  intro p e s m args below meth c s₁ Bd hml0 hP hK
  obtain ⟨rfl, hZ, hh⟩ := hP
  have hx := Bd.exec
  have hby := Bd.bytes
  have hml : c.maxLocals = 4 := hml0
  have hown : s.vm.findClass "com/example/quantail/quantail/NumberArray" = some m.cls := findClass_of_methodNamed Bd.named
  have hnm := (name_of_methodNamed Bd.named Bd.method).1
  have X0 : Stand p l e ({ frames := 0, cells := 0, slots := 0, locals := 0 } : Room) s m #[(.ref a1), (.int (2 : Int32)), (.double dd)] below meth c s₁ [] 0 0 := Stand.of_body Bd
  have e0 : s₁.heap = h0 := by rw [← hh, Bd.state]; rfl
  have N0 := Fr.nil n0
  have K0 := Keep.refl h0 [it]
  show Goes p e below s (Q_rm6_2 Z a1 dd it kd w0 w1 w2 w3 h0 n0) ({ frames := 0, cells := 0, slots := 0, locals := 0 } : Room).cells ({ frames := 0, cells := 0, slots := 0, locals := 0 } : Room).slots (s₁.setTop (entryFrame m #[(.ref a1), (.int (2 : Int32)), (.double dd)] 4))
  refine Goes.pre (fun t kt => castTop (ef_rm6_2 m a1 dd) kt) ?_
  show Goes p e below s _ _ _ (s₁.setTop (mkF m 0 #[.val (.ref a1), .val (.int (2 : Int32)), .val (.double dd), .second] []))
  refine Goes.pre (fun t kt => XS.aloadN X0.here hx rfl (hb hby d6_0) rfl rfl kt) ?_
  show Goes p e below s _ _ _ (s₁.setTop (mkF m 1 #[.val (.ref a1), .val (.int (2 : Int32)), .val (.double dd), .second] [(.ref a1)]))
  obtain ⟨T1, X1, e1, st1⟩ := getF X0 hx hZ hown (host := "") (Or.inl (hw _ (List.mem_of_getElem? (i := 23) rfl))) Via.refl e0 pf_F_a1_com_example_quantail_quantail_NumberArray_items (g := (mkF m 1 #[.val (.ref a1), .val (.int (2 : Int32)), .val (.double dd), .second] [(.ref a1)])) rfl rfl (hb hby d6_1)
  refine Goes.pre st1 ?_
  show Goes p e below s _ _ _ (T1.setTop (mkF m 4 #[.val (.ref a1), .val (.int (2 : Int32)), .val (.double dd), .second] [(.ref it)]))
  refine Goes.pre (fun t kt => XS.iloadN X1.here hx rfl (hb hby d6_4) rfl kt) ?_
  show Goes p e below s _ _ _ (T1.setTop (mkF m 5 #[.val (.ref a1), .val (.int (2 : Int32)), .val (.double dd), .second] [(.int (2 : Int32)), (.ref it)]))
  refine Goes.pre (fun t kt => XS.dloadN X1.here hx rfl (hb hby d6_5) rfl kt) ?_
  show Goes p e below s _ _ _ (T1.setTop (mkF m 6 #[.val (.ref a1), .val (.int (2 : Int32)), .val (.double dd), .second] [(.double dd), (.int (2 : Int32)), (.ref it)]))
  obtain ⟨cl2, Ar2, aq2, aS2, aN2, aH2, aG2⟩ := pf_V_it
  have hin2 : ¬ ((2 : Int32) < 0 ∨ cl2.slots.size ≤ ((2 : Int32)).toNatClampNeg) := inb_of aS2 ⟨by decide, by decide⟩
  obtain ⟨T2, h2, X2, e2, W2, st2⟩ := stD X1 hx hZ e1 Ar2 (j := (2 : Int32)) hin2 (g := (mkF m 6 #[.val (.ref a1), .val (.int (2 : Int32)), .val (.double dd), .second] [(.double dd), (.int (2 : Int32)), (.ref it)])) rfl rfl (hb hby d6_6)
  refine Goes.pre st2 ?_
  have Z2 : n0 ≤ h2.size := Nat.le_trans Z0 (Keep.of_wr W2).1
  have N2 := Fr.snoc X2 N0 pf_G_it
  have K2 := K0.wr W2 (Or.inl (List.mem_of_getElem? (i := 0) rfl))
  have V2 : Arv Z h2 it kd .double (4 : Int32) [(.double w0), (.double w1), (.double dd), (.double w3)] (.double (0 : UInt64)) := Arv.set Ar2 aq2 aS2 aN2 aH2 aG2 rfl W2 2 rfl (Nat.le_of_ble_eq_true rfl)
  show Goes p e below s _ _ _ (T2.setTop (mkF m 7 #[.val (.ref a1), .val (.int (2 : Int32)), .val (.double dd), .second] []))
  refine Goes.ret X2 none (fun _ => rfl) (BodyLoose.notSynchronized Bd) (by decide) (by decide) (fun fs hr => X2.returnOut hx Bd.returns (hb hby d6_7) hr) ?_
  show Q_rm6_2 Z a1 dd it kd w0 w1 w2 w3 h0 n0 _ T2.heap _
  rw [e2]
  exact ⟨rfl, N2, K2, V2⟩
def Q_rm6_3 (Z : State) (a1 : Addr) (dd : UInt64) (it : Addr) (kd : ClassId) (w0 : UInt64) (w1 : UInt64) (w2 : UInt64) (w3 : UInt64) (h0 : Heap) (n0 : Nat) (v : Option Value) (h : Heap) (L : List Loc) : Prop := v = none ∧ Fr n0 L ∧ Keep h0 h [it] ∧ (Arv Z h it kd .double (4 : Int32) [(.double w0), (.double w1), (.double w2), (.double dd)] (.double (0 : UInt64)))
theorem ef_rm6_3 (m : MethodId) (a1 : Addr) (dd : UInt64) : entryFrame m #[(.ref a1), (.int (3 : Int32)), (.double dd)] 4 = mkF m 0 #[.val (.ref a1), .val (.int (3 : Int32)), .val (.double dd), .second] [] := by first | (simp [entryFrame, mkF, argsToLocals, Value.category]; done) | rfl
set_option maxRecDepth 65536 in
set_option maxHeartbeats 40000000 in
theorem rm6_3 (l : Launch) (Z : State) (a0 : Array Value) (hw : ∀ d ∈ tables_1, d.before a0 Z = true) (ws : List Jvm.Cond) (a1 : Addr) (dd : UInt64) (it : Addr) (kd : ClassId) (w0 : UInt64) (w1 : UInt64) (w2 : UInt64) (w3 : UInt64) (h0 : Heap) (n0 : Nat) (Z0 : n0 ≤ h0.size) (pf_F_a1_com_example_quantail_quantail_NumberArray_items : Fld Z h0 a1 "com/example/quantail/quantail/NumberArray" "items" "[D" (.ref it)) (pf_V_it : Arv Z h0 it kd .double (4 : Int32) [(.double w0), (.double w1), (.double w2), (.double w3)] (.double (0 : UInt64))) (pf_G_it : n0 ≤ it) :
    MetFree l (⟨"com/example/quantail/quantail/NumberArray", "setNumber", "(ID)V"⟩ : MethodName) (head1 (Jvm.Cond.code (⟨"com/example/quantail/quantail/NumberArray", "setNumber", "(ID)V"⟩ : MethodName) prog_9_method_8_code 4 none :: ws) ({ frames := 0, cells := 0, slots := 0, locals := 0 } : Room)) (fun a U => a = #[(.ref a1), (.int (3 : Int32)), (.double dd)] ∧ Z.Warmed39 U.vm ∧ U.heap = h0) (fun _ _ _ _ _ => True) (fun _ U o U' => ∃ v L, o = .returned v ∧ Q_rm6_3 Z a1 dd it kd w0 w1 w2 w3 h0 n0 v U'.heap L ∧ FrameEnd U o U' L ({ frames := 0, cells := 0, slots := 0, locals := 0 } : Room).cells ({ frames := 0, cells := 0, slots := 0, locals := 0 } : Room).slots) := by
  refine MetFree.of_bodySF (plainFor_of_name pn_3) hisR ?_
  intro p e s m args below meth c s₁ Bd hml0 hP hK
  obtain ⟨rfl, hZ, hh⟩ := hP
  have hx := Bd.exec
  have hby := Bd.bytes
  have hml : c.maxLocals = 4 := hml0
  have hown : s.vm.findClass "com/example/quantail/quantail/NumberArray" = some m.cls := findClass_of_methodNamed Bd.named
  have hnm := (name_of_methodNamed Bd.named Bd.method).1
  have X0 : Stand p l e ({ frames := 0, cells := 0, slots := 0, locals := 0 } : Room) s m #[(.ref a1), (.int (3 : Int32)), (.double dd)] below meth c s₁ [] 0 0 := Stand.of_body Bd
  have e0 : s₁.heap = h0 := by rw [← hh, Bd.state]; rfl
  have N0 := Fr.nil n0
  have K0 := Keep.refl h0 [it]
  show Goes p e below s (Q_rm6_3 Z a1 dd it kd w0 w1 w2 w3 h0 n0) ({ frames := 0, cells := 0, slots := 0, locals := 0 } : Room).cells ({ frames := 0, cells := 0, slots := 0, locals := 0 } : Room).slots (s₁.setTop (entryFrame m #[(.ref a1), (.int (3 : Int32)), (.double dd)] 4))
  refine Goes.pre (fun t kt => castTop (ef_rm6_3 m a1 dd) kt) ?_
  show Goes p e below s _ _ _ (s₁.setTop (mkF m 0 #[.val (.ref a1), .val (.int (3 : Int32)), .val (.double dd), .second] []))
  refine Goes.pre (fun t kt => XS.aloadN X0.here hx rfl (hb hby d6_0) rfl rfl kt) ?_
  show Goes p e below s _ _ _ (s₁.setTop (mkF m 1 #[.val (.ref a1), .val (.int (3 : Int32)), .val (.double dd), .second] [(.ref a1)]))
  obtain ⟨T1, X1, e1, st1⟩ := getF X0 hx hZ hown (host := "") (Or.inl (hw _ (List.mem_of_getElem? (i := 23) rfl))) Via.refl e0 pf_F_a1_com_example_quantail_quantail_NumberArray_items (g := (mkF m 1 #[.val (.ref a1), .val (.int (3 : Int32)), .val (.double dd), .second] [(.ref a1)])) rfl rfl (hb hby d6_1)
  refine Goes.pre st1 ?_
  show Goes p e below s _ _ _ (T1.setTop (mkF m 4 #[.val (.ref a1), .val (.int (3 : Int32)), .val (.double dd), .second] [(.ref it)]))
  refine Goes.pre (fun t kt => XS.iloadN X1.here hx rfl (hb hby d6_4) rfl kt) ?_
  show Goes p e below s _ _ _ (T1.setTop (mkF m 5 #[.val (.ref a1), .val (.int (3 : Int32)), .val (.double dd), .second] [(.int (3 : Int32)), (.ref it)]))
  refine Goes.pre (fun t kt => XS.dloadN X1.here hx rfl (hb hby d6_5) rfl kt) ?_
  show Goes p e below s _ _ _ (T1.setTop (mkF m 6 #[.val (.ref a1), .val (.int (3 : Int32)), .val (.double dd), .second] [(.double dd), (.int (3 : Int32)), (.ref it)]))
  obtain ⟨cl2, Ar2, aq2, aS2, aN2, aH2, aG2⟩ := pf_V_it
  have hin2 : ¬ ((3 : Int32) < 0 ∨ cl2.slots.size ≤ ((3 : Int32)).toNatClampNeg) := inb_of aS2 ⟨by decide, by decide⟩
  obtain ⟨T2, h2, X2, e2, W2, st2⟩ := stD X1 hx hZ e1 Ar2 (j := (3 : Int32)) hin2 (g := (mkF m 6 #[.val (.ref a1), .val (.int (3 : Int32)), .val (.double dd), .second] [(.double dd), (.int (3 : Int32)), (.ref it)])) rfl rfl (hb hby d6_6)
  refine Goes.pre st2 ?_
  have Z2 : n0 ≤ h2.size := Nat.le_trans Z0 (Keep.of_wr W2).1
  have N2 := Fr.snoc X2 N0 pf_G_it
  have K2 := K0.wr W2 (Or.inl (List.mem_of_getElem? (i := 0) rfl))
  have V2 : Arv Z h2 it kd .double (4 : Int32) [(.double w0), (.double w1), (.double w2), (.double dd)] (.double (0 : UInt64)) := Arv.set Ar2 aq2 aS2 aN2 aH2 aG2 rfl W2 3 rfl (Nat.le_of_ble_eq_true rfl)
  show Goes p e below s _ _ _ (T2.setTop (mkF m 7 #[.val (.ref a1), .val (.int (3 : Int32)), .val (.double dd), .second] []))
  refine Goes.ret X2 none (fun _ => rfl) (BodyLoose.notSynchronized Bd) (by decide) (by decide) (fun fs hr => X2.returnOut hx Bd.returns (hb hby d6_7) hr) ?_
  show Q_rm6_3 Z a1 dd it kd w0 w1 w2 w3 h0 n0 _ T2.heap _
  rw [e2]
  exact ⟨rfl, N2, K2, V2⟩
theorem d7_0 : decode prog_9_method_17_code 0 = .ok (.iload_n 1, 1) := by decide +kernel
theorem d7_1 : decode prog_9_method_17_code 1 = .ok (.istore_n 3, 1) := by decide +kernel
theorem d7_2 : decode prog_9_method_17_code 2 = .ok (.iload_n 2, 1) := by decide +kernel
theorem d7_3 : decode prog_9_method_17_code 3 = .ok (.iconst 1, 1) := by decide +kernel
theorem d7_4 : decode prog_9_method_17_code 4 = .ok (.isub, 1) := by decide +kernel
theorem d7_5 : decode prog_9_method_17_code 5 = .ok (.istore 4, 2) := by decide +kernel
theorem d7_7 : decode prog_9_method_17_code 7 = .ok (.iload_n 3, 1) := by decide +kernel
theorem d7_8 : decode prog_9_method_17_code 8 = .ok (.iload 4, 2) := by decide +kernel
theorem d7_10 : decode prog_9_method_17_code 10 = .ok (.if_icmp .ge 42, 3) := by decide +kernel
theorem d7_52 : decode prog_9_method_17_code 52 = .ok (.return_, 1) := by decide +kernel
theorem d7_13 : decode prog_9_method_17_code 13 = .ok (.aload_n 0, 1) := by decide +kernel
theorem d7_14 : decode prog_9_method_17_code 14 = .ok (.getfield 7, 3) := by decide +kernel
theorem d7_17 : decode prog_9_method_17_code 17 = .ok (.iload_n 3, 1) := by decide +kernel
theorem d7_18 : decode prog_9_method_17_code 18 = .ok (.daload, 1) := by decide +kernel
theorem d7_19 : decode prog_9_method_17_code 19 = .ok (.dstore 5, 2) := by decide +kernel
theorem d7_21 : decode prog_9_method_17_code 21 = .ok (.aload_n 0, 1) := by decide +kernel
theorem d7_22 : decode prog_9_method_17_code 22 = .ok (.getfield 7, 3) := by decide +kernel
theorem d7_25 : decode prog_9_method_17_code 25 = .ok (.iload_n 3, 1) := by decide +kernel
theorem d7_26 : decode prog_9_method_17_code 26 = .ok (.aload_n 0, 1) := by decide +kernel
theorem d7_27 : decode prog_9_method_17_code 27 = .ok (.getfield 7, 3) := by decide +kernel
theorem d7_30 : decode prog_9_method_17_code 30 = .ok (.iload 4, 2) := by decide +kernel
theorem d7_32 : decode prog_9_method_17_code 32 = .ok (.daload, 1) := by decide +kernel
theorem d7_33 : decode prog_9_method_17_code 33 = .ok (.dastore, 1) := by decide +kernel
theorem d7_34 : decode prog_9_method_17_code 34 = .ok (.aload_n 0, 1) := by decide +kernel
theorem d7_35 : decode prog_9_method_17_code 35 = .ok (.getfield 7, 3) := by decide +kernel
theorem d7_38 : decode prog_9_method_17_code 38 = .ok (.iload 4, 2) := by decide +kernel
theorem d7_40 : decode prog_9_method_17_code 40 = .ok (.dload 5, 2) := by decide +kernel
theorem d7_42 : decode prog_9_method_17_code 42 = .ok (.dastore, 1) := by decide +kernel
theorem d7_43 : decode prog_9_method_17_code 43 = .ok (.iinc 3 1, 3) := by decide +kernel
theorem d7_46 : decode prog_9_method_17_code 46 = .ok (.iinc 4 (-1), 3) := by decide +kernel
theorem d7_49 : decode prog_9_method_17_code 49 = .ok (.goto (-42), 3) := by decide +kernel
def Q_rm7 (Z : State) (a1 : Addr) (lo : Int32) (hi : Int32) (it : Addr) (kd : ClassId) (w0 : UInt64) (w1 : UInt64) (w2 : UInt64) (w3 : UInt64) (h0 : Heap) (n0 : Nat) (v : Option Value) (h : Heap) (L : List Loc) : Prop := v = none ∧ Fr n0 L ∧ Keep h0 h [it] ∧ (Arv Z h it kd .double (4 : Int32) [(.double (own_e lo hi (0 : Int32) w0 w1 w2 w3)), (.double (own_e lo hi (1 : Int32) w0 w1 w2 w3)), (.double (own_e lo hi (2 : Int32) w0 w1 w2 w3)), (.double (own_e lo hi (3 : Int32) w0 w1 w2 w3))] (.double (0 : UInt64)))
theorem ef_rm7 (m : MethodId) (a1 : Addr) (lo : Int32) (hi : Int32) : entryFrame m #[(.ref a1), (.int lo), (.int hi)] 7 = mkF m 0 #[.val (.ref a1), .val (.int lo), .val (.int hi), .unset, .unset, .unset, .unset] [] := by first | (simp [entryFrame, mkF, argsToLocals, Value.category]; done) | rfl
set_option maxRecDepth 65536 in
set_option maxHeartbeats 40000000 in
theorem rm7 (l : Launch) (Z : State) (a0 : Array Value) (hw : ∀ d ∈ tables_1, d.before a0 Z = true) (ws : List Jvm.Cond) (a1 : Addr) (lo : Int32) (hi : Int32) (it : Addr) (kd : ClassId) (w0 : UInt64) (w1 : UInt64) (w2 : UInt64) (w3 : UInt64) (h0 : Heap) (n0 : Nat) (Z0 : n0 ≤ h0.size) (pf_F_a1_com_example_quantail_quantail_NumberArray_items : Fld Z h0 a1 "com/example/quantail/quantail/NumberArray" "items" "[D" (.ref it)) (pf_V_it : Arv Z h0 it kd .double (4 : Int32) [(.double w0), (.double w1), (.double w2), (.double w3)] (.double (0 : UInt64))) (pf_G_it : n0 ≤ it) (pf_NE_a1_it : a1 ≠ it) (hok : own_ok lo hi) :
    MetFree l (⟨"com/example/quantail/quantail/NumberArray", "reverse", "(II)V"⟩ : MethodName) (head1 (Jvm.Cond.code (⟨"com/example/quantail/quantail/NumberArray", "reverse", "(II)V"⟩ : MethodName) prog_9_method_17_code 7 none :: ws) ({ frames := 0, cells := 0, slots := 0, locals := 0 } : Room)) (fun a U => a = #[(.ref a1), (.int lo), (.int hi)] ∧ Z.Warmed39 U.vm ∧ U.heap = h0) (fun _ _ _ _ _ => True) (fun _ U o U' => ∃ v L, o = .returned v ∧ Q_rm7 Z a1 lo hi it kd w0 w1 w2 w3 h0 n0 v U'.heap L ∧ FrameEnd U o U' L ({ frames := 0, cells := 0, slots := 0, locals := 0 } : Room).cells ({ frames := 0, cells := 0, slots := 0, locals := 0 } : Room).slots) := by
  refine MetFree.of_bodySF (plainFor_of_name pn_3) hisR ?_
  intro p e s m args below meth c s₁ Bd hml0 hP hK
  obtain ⟨rfl, hZ, hh⟩ := hP
  have hx := Bd.exec
  have hby := Bd.bytes
  have hml : c.maxLocals = 7 := hml0
  have hown : s.vm.findClass "com/example/quantail/quantail/NumberArray" = some m.cls := findClass_of_methodNamed Bd.named
  have hnm := (name_of_methodNamed Bd.named Bd.method).1
  have X0 : Stand p l e ({ frames := 0, cells := 0, slots := 0, locals := 0 } : Room) s m #[(.ref a1), (.int lo), (.int hi)] below meth c s₁ [] 0 0 := Stand.of_body Bd
  have e0 : s₁.heap = h0 := by rw [← hh, Bd.state]; rfl
  have N0 := Fr.nil n0
  have K0 := Keep.refl h0 [it]
  show Goes p e below s (Q_rm7 Z a1 lo hi it kd w0 w1 w2 w3 h0 n0) ({ frames := 0, cells := 0, slots := 0, locals := 0 } : Room).cells ({ frames := 0, cells := 0, slots := 0, locals := 0 } : Room).slots (s₁.setTop (entryFrame m #[(.ref a1), (.int lo), (.int hi)] 7))
  refine Goes.pre (fun t kt => castTop (ef_rm7 m a1 lo hi) kt) ?_
  show Goes p e below s _ _ _ (s₁.setTop (mkF m 0 #[.val (.ref a1), .val (.int lo), .val (.int hi), .unset, .unset, .unset, .unset] []))
  rcases hok with ⟨rfl, rfl⟩ | ⟨rfl, rfl⟩ | ⟨rfl, rfl⟩ | ⟨rfl, rfl⟩ | ⟨rfl, rfl⟩ | ⟨rfl, rfl⟩ | ⟨rfl, rfl⟩ | ⟨rfl, rfl⟩ | ⟨rfl, rfl⟩ | ⟨rfl, rfl⟩ | ⟨rfl, rfl⟩ | ⟨rfl, rfl⟩ | ⟨rfl, rfl⟩ | ⟨rfl, rfl⟩ | ⟨rfl, rfl⟩
  · show Goes p e below s _ _ _ (s₁.setTop (mkF m 0 #[.val (.ref a1), .val (.int (0 : Int32)), .val (.int (0 : Int32)), .unset, .unset, .unset, .unset] []))
    refine Goes.pre (fun t kt => XS.iloadN X0.here hx rfl (hb hby d7_0) rfl kt) ?_
    show Goes p e below s _ _ _ (s₁.setTop (mkF m 1 #[.val (.ref a1), .val (.int (0 : Int32)), .val (.int (0 : Int32)), .unset, .unset, .unset, .unset] [(.int (0 : Int32))]))
    refine Goes.pre (fun t kt => XS.istoreN X0.here hx rfl (hb hby d7_1) rfl (l' := #[.val (.ref a1), .val (.int (0 : Int32)), .val (.int (0 : Int32)), .val (.int (0 : Int32)), .unset, .unset, .unset]) rfl kt) ?_
    show Goes p e below s _ _ _ (s₁.setTop (mkF m 2 #[.val (.ref a1), .val (.int (0 : Int32)), .val (.int (0 : Int32)), .val (.int (0 : Int32)), .unset, .unset, .unset] []))
    refine Goes.pre (fun t kt => XS.iloadN X0.here hx rfl (hb hby d7_2) rfl kt) ?_
    show Goes p e below s _ _ _ (s₁.setTop (mkF m 3 #[.val (.ref a1), .val (.int (0 : Int32)), .val (.int (0 : Int32)), .val (.int (0 : Int32)), .unset, .unset, .unset] [(.int (0 : Int32))]))
    refine Goes.pre (fun t kt => XS.iconst X0.here hx rfl (hb hby d7_3) kt) ?_
    show Goes p e below s _ _ _ (s₁.setTop (mkF m 4 #[.val (.ref a1), .val (.int (0 : Int32)), .val (.int (0 : Int32)), .val (.int (0 : Int32)), .unset, .unset, .unset] [(.int (1 : Int32)), (.int (0 : Int32))]))
    refine Goes.pre (fun t kt => XS.isub X0.here hx rfl (hb hby d7_4) rfl kt) ?_
    show Goes p e below s _ _ _ (s₁.setTop (mkF m 5 #[.val (.ref a1), .val (.int (0 : Int32)), .val (.int (0 : Int32)), .val (.int (0 : Int32)), .unset, .unset, .unset] [(.int (-1 : Int32))]))
    refine Goes.pre (fun t kt => XS.istore X0.here hx rfl (hb hby d7_5) rfl (l' := #[.val (.ref a1), .val (.int (0 : Int32)), .val (.int (0 : Int32)), .val (.int (0 : Int32)), .val (.int (-1 : Int32)), .unset, .unset]) rfl kt) ?_
    show Goes p e below s _ _ _ (s₁.setTop (mkF m 7 #[.val (.ref a1), .val (.int (0 : Int32)), .val (.int (0 : Int32)), .val (.int (0 : Int32)), .val (.int (-1 : Int32)), .unset, .unset] []))
    refine Goes.pre (fun t kt => XS.iloadN X0.here hx rfl (hb hby d7_7) rfl kt) ?_
    show Goes p e below s _ _ _ (s₁.setTop (mkF m 8 #[.val (.ref a1), .val (.int (0 : Int32)), .val (.int (0 : Int32)), .val (.int (0 : Int32)), .val (.int (-1 : Int32)), .unset, .unset] [(.int (0 : Int32))]))
    refine Goes.pre (fun t kt => XS.iload X0.here hx rfl (hb hby d7_8) rfl kt) ?_
    show Goes p e below s _ _ _ (s₁.setTop (mkF m 10 #[.val (.ref a1), .val (.int (0 : Int32)), .val (.int (0 : Int32)), .val (.int (0 : Int32)), .val (.int (-1 : Int32)), .unset, .unset] [(.int (-1 : Int32)), (.int (0 : Int32))]))
    refine Goes.pre (fun t kt => XS.icmpYes X0.here hx rfl (pc0 := 10) (pc' := 52) rfl (hb hby d7_10) rfl (Jvm.Free.XT.ii_ge_t ((by decide))) (by decide) (by decide) kt) ?_
    show Goes p e below s _ _ _ (s₁.setTop (mkF m 52 #[.val (.ref a1), .val (.int (0 : Int32)), .val (.int (0 : Int32)), .val (.int (0 : Int32)), .val (.int (-1 : Int32)), .unset, .unset] []))
    have qe1 : own_e (0 : Int32) (0 : Int32) (0 : Int32) w0 w1 w2 w3 = w0 := by simp [own_e, own_pick]
    have qe2 : own_e (0 : Int32) (0 : Int32) (1 : Int32) w0 w1 w2 w3 = w1 := by simp [own_e, own_pick]
    have qe3 : own_e (0 : Int32) (0 : Int32) (2 : Int32) w0 w1 w2 w3 = w2 := by simp [own_e, own_pick]
    have qe4 : own_e (0 : Int32) (0 : Int32) (3 : Int32) w0 w1 w2 w3 = w3 := by simp [own_e, own_pick]
    refine Goes.ret X0 none (fun _ => rfl) (BodyLoose.notSynchronized Bd) (by decide) (by decide) (fun fs hr => X0.returnOut hx Bd.returns (hb hby d7_52) hr) ?_
    show Q_rm7 Z a1 (0 : Int32) (0 : Int32) it kd w0 w1 w2 w3 h0 n0 _ s₁.heap _
    rw [e0]
    exact ⟨rfl, N0, K0, (by rw [qe1, qe2, qe3, qe4]; exact pf_V_it)⟩
  · show Goes p e below s _ _ _ (s₁.setTop (mkF m 0 #[.val (.ref a1), .val (.int (0 : Int32)), .val (.int (1 : Int32)), .unset, .unset, .unset, .unset] []))
    refine Goes.pre (fun t kt => XS.iloadN X0.here hx rfl (hb hby d7_0) rfl kt) ?_
    show Goes p e below s _ _ _ (s₁.setTop (mkF m 1 #[.val (.ref a1), .val (.int (0 : Int32)), .val (.int (1 : Int32)), .unset, .unset, .unset, .unset] [(.int (0 : Int32))]))
    refine Goes.pre (fun t kt => XS.istoreN X0.here hx rfl (hb hby d7_1) rfl (l' := #[.val (.ref a1), .val (.int (0 : Int32)), .val (.int (1 : Int32)), .val (.int (0 : Int32)), .unset, .unset, .unset]) rfl kt) ?_
    show Goes p e below s _ _ _ (s₁.setTop (mkF m 2 #[.val (.ref a1), .val (.int (0 : Int32)), .val (.int (1 : Int32)), .val (.int (0 : Int32)), .unset, .unset, .unset] []))
    refine Goes.pre (fun t kt => XS.iloadN X0.here hx rfl (hb hby d7_2) rfl kt) ?_
    show Goes p e below s _ _ _ (s₁.setTop (mkF m 3 #[.val (.ref a1), .val (.int (0 : Int32)), .val (.int (1 : Int32)), .val (.int (0 : Int32)), .unset, .unset, .unset] [(.int (1 : Int32))]))
    refine Goes.pre (fun t kt => XS.iconst X0.here hx rfl (hb hby d7_3) kt) ?_
    show Goes p e below s _ _ _ (s₁.setTop (mkF m 4 #[.val (.ref a1), .val (.int (0 : Int32)), .val (.int (1 : Int32)), .val (.int (0 : Int32)), .unset, .unset, .unset] [(.int (1 : Int32)), (.int (1 : Int32))]))
    refine Goes.pre (fun t kt => XS.isub X0.here hx rfl (hb hby d7_4) rfl kt) ?_
    show Goes p e below s _ _ _ (s₁.setTop (mkF m 5 #[.val (.ref a1), .val (.int (0 : Int32)), .val (.int (1 : Int32)), .val (.int (0 : Int32)), .unset, .unset, .unset] [(.int (0 : Int32))]))
    refine Goes.pre (fun t kt => XS.istore X0.here hx rfl (hb hby d7_5) rfl (l' := #[.val (.ref a1), .val (.int (0 : Int32)), .val (.int (1 : Int32)), .val (.int (0 : Int32)), .val (.int (0 : Int32)), .unset, .unset]) rfl kt) ?_
    show Goes p e below s _ _ _ (s₁.setTop (mkF m 7 #[.val (.ref a1), .val (.int (0 : Int32)), .val (.int (1 : Int32)), .val (.int (0 : Int32)), .val (.int (0 : Int32)), .unset, .unset] []))
    refine Goes.pre (fun t kt => XS.iloadN X0.here hx rfl (hb hby d7_7) rfl kt) ?_
    show Goes p e below s _ _ _ (s₁.setTop (mkF m 8 #[.val (.ref a1), .val (.int (0 : Int32)), .val (.int (1 : Int32)), .val (.int (0 : Int32)), .val (.int (0 : Int32)), .unset, .unset] [(.int (0 : Int32))]))
    refine Goes.pre (fun t kt => XS.iload X0.here hx rfl (hb hby d7_8) rfl kt) ?_
    show Goes p e below s _ _ _ (s₁.setTop (mkF m 10 #[.val (.ref a1), .val (.int (0 : Int32)), .val (.int (1 : Int32)), .val (.int (0 : Int32)), .val (.int (0 : Int32)), .unset, .unset] [(.int (0 : Int32)), (.int (0 : Int32))]))
    refine Goes.pre (fun t kt => XS.icmpYes X0.here hx rfl (pc0 := 10) (pc' := 52) rfl (hb hby d7_10) rfl (Jvm.Free.XT.ii_ge_t ((by decide))) (by decide) (by decide) kt) ?_
    show Goes p e below s _ _ _ (s₁.setTop (mkF m 52 #[.val (.ref a1), .val (.int (0 : Int32)), .val (.int (1 : Int32)), .val (.int (0 : Int32)), .val (.int (0 : Int32)), .unset, .unset] []))
    have qe5 : own_e (0 : Int32) (1 : Int32) (0 : Int32) w0 w1 w2 w3 = w0 := by simp [own_e, own_pick]
    have qe6 : own_e (0 : Int32) (1 : Int32) (1 : Int32) w0 w1 w2 w3 = w1 := by simp [own_e, own_pick]
    have qe7 : own_e (0 : Int32) (1 : Int32) (2 : Int32) w0 w1 w2 w3 = w2 := by simp [own_e, own_pick]
    have qe8 : own_e (0 : Int32) (1 : Int32) (3 : Int32) w0 w1 w2 w3 = w3 := by simp [own_e, own_pick]
    refine Goes.ret X0 none (fun _ => rfl) (BodyLoose.notSynchronized Bd) (by decide) (by decide) (fun fs hr => X0.returnOut hx Bd.returns (hb hby d7_52) hr) ?_
    show Q_rm7 Z a1 (0 : Int32) (1 : Int32) it kd w0 w1 w2 w3 h0 n0 _ s₁.heap _
    rw [e0]
    exact ⟨rfl, N0, K0, (by rw [qe5, qe6, qe7, qe8]; exact pf_V_it)⟩
  · show Goes p e below s _ _ _ (s₁.setTop (mkF m 0 #[.val (.ref a1), .val (.int (0 : Int32)), .val (.int (2 : Int32)), .unset, .unset, .unset, .unset] []))
    refine Goes.pre (fun t kt => XS.iloadN X0.here hx rfl (hb hby d7_0) rfl kt) ?_
    show Goes p e below s _ _ _ (s₁.setTop (mkF m 1 #[.val (.ref a1), .val (.int (0 : Int32)), .val (.int (2 : Int32)), .unset, .unset, .unset, .unset] [(.int (0 : Int32))]))
    refine Goes.pre (fun t kt => XS.istoreN X0.here hx rfl (hb hby d7_1) rfl (l' := #[.val (.ref a1), .val (.int (0 : Int32)), .val (.int (2 : Int32)), .val (.int (0 : Int32)), .unset, .unset, .unset]) rfl kt) ?_
    show Goes p e below s _ _ _ (s₁.setTop (mkF m 2 #[.val (.ref a1), .val (.int (0 : Int32)), .val (.int (2 : Int32)), .val (.int (0 : Int32)), .unset, .unset, .unset] []))
    refine Goes.pre (fun t kt => XS.iloadN X0.here hx rfl (hb hby d7_2) rfl kt) ?_
    show Goes p e below s _ _ _ (s₁.setTop (mkF m 3 #[.val (.ref a1), .val (.int (0 : Int32)), .val (.int (2 : Int32)), .val (.int (0 : Int32)), .unset, .unset, .unset] [(.int (2 : Int32))]))
    refine Goes.pre (fun t kt => XS.iconst X0.here hx rfl (hb hby d7_3) kt) ?_
    show Goes p e below s _ _ _ (s₁.setTop (mkF m 4 #[.val (.ref a1), .val (.int (0 : Int32)), .val (.int (2 : Int32)), .val (.int (0 : Int32)), .unset, .unset, .unset] [(.int (1 : Int32)), (.int (2 : Int32))]))
    refine Goes.pre (fun t kt => XS.isub X0.here hx rfl (hb hby d7_4) rfl kt) ?_
    show Goes p e below s _ _ _ (s₁.setTop (mkF m 5 #[.val (.ref a1), .val (.int (0 : Int32)), .val (.int (2 : Int32)), .val (.int (0 : Int32)), .unset, .unset, .unset] [(.int (1 : Int32))]))
    refine Goes.pre (fun t kt => XS.istore X0.here hx rfl (hb hby d7_5) rfl (l' := #[.val (.ref a1), .val (.int (0 : Int32)), .val (.int (2 : Int32)), .val (.int (0 : Int32)), .val (.int (1 : Int32)), .unset, .unset]) rfl kt) ?_
    show Goes p e below s _ _ _ (s₁.setTop (mkF m 7 #[.val (.ref a1), .val (.int (0 : Int32)), .val (.int (2 : Int32)), .val (.int (0 : Int32)), .val (.int (1 : Int32)), .unset, .unset] []))
    refine Goes.pre (fun t kt => XS.iloadN X0.here hx rfl (hb hby d7_7) rfl kt) ?_
    show Goes p e below s _ _ _ (s₁.setTop (mkF m 8 #[.val (.ref a1), .val (.int (0 : Int32)), .val (.int (2 : Int32)), .val (.int (0 : Int32)), .val (.int (1 : Int32)), .unset, .unset] [(.int (0 : Int32))]))
    refine Goes.pre (fun t kt => XS.iload X0.here hx rfl (hb hby d7_8) rfl kt) ?_
    show Goes p e below s _ _ _ (s₁.setTop (mkF m 10 #[.val (.ref a1), .val (.int (0 : Int32)), .val (.int (2 : Int32)), .val (.int (0 : Int32)), .val (.int (1 : Int32)), .unset, .unset] [(.int (1 : Int32)), (.int (0 : Int32))]))
    refine Goes.pre (fun t kt => XS.icmpNo X0.here hx rfl (hb hby d7_10) rfl (Jvm.Free.XT.ii_ge_f ((by decide))) kt) ?_
    show Goes p e below s _ _ _ (s₁.setTop (mkF m 13 #[.val (.ref a1), .val (.int (0 : Int32)), .val (.int (2 : Int32)), .val (.int (0 : Int32)), .val (.int (1 : Int32)), .unset, .unset] []))
    refine Goes.pre (fun t kt => XS.aloadN X0.here hx rfl (hb hby d7_13) rfl rfl kt) ?_
    show Goes p e below s _ _ _ (s₁.setTop (mkF m 14 #[.val (.ref a1), .val (.int (0 : Int32)), .val (.int (2 : Int32)), .val (.int (0 : Int32)), .val (.int (1 : Int32)), .unset, .unset] [(.ref a1)]))
    obtain ⟨T9, X9, e9, st9⟩ := getF X0 hx hZ hown (host := "") (Or.inl (hw _ (List.mem_of_getElem? (i := 23) rfl))) Via.refl e0 pf_F_a1_com_example_quantail_quantail_NumberArray_items (g := (mkF m 14 #[.val (.ref a1), .val (.int (0 : Int32)), .val (.int (2 : Int32)), .val (.int (0 : Int32)), .val (.int (1 : Int32)), .unset, .unset] [(.ref a1)])) rfl rfl (hb hby d7_14)
    refine Goes.pre st9 ?_
    show Goes p e below s _ _ _ (T9.setTop (mkF m 17 #[.val (.ref a1), .val (.int (0 : Int32)), .val (.int (2 : Int32)), .val (.int (0 : Int32)), .val (.int (1 : Int32)), .unset, .unset] [(.ref it)]))
    refine Goes.pre (fun t kt => XS.iloadN X9.here hx rfl (hb hby d7_17) rfl kt) ?_
    show Goes p e below s _ _ _ (T9.setTop (mkF m 18 #[.val (.ref a1), .val (.int (0 : Int32)), .val (.int (2 : Int32)), .val (.int (0 : Int32)), .val (.int (1 : Int32)), .unset, .unset] [(.int (0 : Int32)), (.ref it)]))
    obtain ⟨cl10, Ar10, aq10, aS10, aN10, aH10, aG10⟩ := pf_V_it
    have V10 : Arv Z h0 it kd .double (4 : Int32) [(.double w0), (.double w1), (.double w2), (.double w3)] (.double (0 : UInt64)) := ⟨cl10, Ar10, aq10, aS10, aN10, aH10, aG10⟩
    have hin10 : ¬ ((0 : Int32) < 0 ∨ cl10.slots.size ≤ ((0 : Int32)).toNatClampNeg) := inb_of aS10 ⟨by decide, by decide⟩
    have hat10 : cl10.slots[((0 : Int32)).toNatClampNeg]? = some (.double w0) := aH10.at hin10 rfl
    refine Goes.pre (X9.daload hx (j := (0 : Int32)) (v := (.double w0)) (by rw [e9]; exact Ar10.1) (State.isArrayOf_alike hZ.alike Ar10.2.1) Ar10.2.2 hin10 hat10 (g := (mkF m 18 #[.val (.ref a1), .val (.int (0 : Int32)), .val (.int (2 : Int32)), .val (.int (0 : Int32)), .val (.int (1 : Int32)), .unset, .unset] [(.int (0 : Int32)), (.ref it)])) rfl rfl (hb hby d7_18)) ?_
    show Goes p e below s _ _ _ (T9.setTop (mkF m 19 #[.val (.ref a1), .val (.int (0 : Int32)), .val (.int (2 : Int32)), .val (.int (0 : Int32)), .val (.int (1 : Int32)), .unset, .unset] [(.double w0)]))
    refine Goes.pre (fun t kt => XS.dstore X9.here hx rfl (hb hby d7_19) rfl (l' := #[.val (.ref a1), .val (.int (0 : Int32)), .val (.int (2 : Int32)), .val (.int (0 : Int32)), .val (.int (1 : Int32)), .val (.double w0), .second]) rfl kt) ?_
    show Goes p e below s _ _ _ (T9.setTop (mkF m 21 #[.val (.ref a1), .val (.int (0 : Int32)), .val (.int (2 : Int32)), .val (.int (0 : Int32)), .val (.int (1 : Int32)), .val (.double w0), .second] []))
    refine Goes.pre (fun t kt => XS.aloadN X9.here hx rfl (hb hby d7_21) rfl rfl kt) ?_
    show Goes p e below s _ _ _ (T9.setTop (mkF m 22 #[.val (.ref a1), .val (.int (0 : Int32)), .val (.int (2 : Int32)), .val (.int (0 : Int32)), .val (.int (1 : Int32)), .val (.double w0), .second] [(.ref a1)]))
    obtain ⟨T11, X11, e11, st11⟩ := getF X9 hx hZ hown (host := "") (Or.inl (hw _ (List.mem_of_getElem? (i := 23) rfl))) Via.refl e9 pf_F_a1_com_example_quantail_quantail_NumberArray_items (g := (mkF m 22 #[.val (.ref a1), .val (.int (0 : Int32)), .val (.int (2 : Int32)), .val (.int (0 : Int32)), .val (.int (1 : Int32)), .val (.double w0), .second] [(.ref a1)])) rfl rfl (hb hby d7_22)
    refine Goes.pre st11 ?_
    show Goes p e below s _ _ _ (T11.setTop (mkF m 25 #[.val (.ref a1), .val (.int (0 : Int32)), .val (.int (2 : Int32)), .val (.int (0 : Int32)), .val (.int (1 : Int32)), .val (.double w0), .second] [(.ref it)]))
    refine Goes.pre (fun t kt => XS.iloadN X11.here hx rfl (hb hby d7_25) rfl kt) ?_
    show Goes p e below s _ _ _ (T11.setTop (mkF m 26 #[.val (.ref a1), .val (.int (0 : Int32)), .val (.int (2 : Int32)), .val (.int (0 : Int32)), .val (.int (1 : Int32)), .val (.double w0), .second] [(.int (0 : Int32)), (.ref it)]))
    refine Goes.pre (fun t kt => XS.aloadN X11.here hx rfl (hb hby d7_26) rfl rfl kt) ?_
    show Goes p e below s _ _ _ (T11.setTop (mkF m 27 #[.val (.ref a1), .val (.int (0 : Int32)), .val (.int (2 : Int32)), .val (.int (0 : Int32)), .val (.int (1 : Int32)), .val (.double w0), .second] [(.ref a1), (.int (0 : Int32)), (.ref it)]))
    obtain ⟨T12, X12, e12, st12⟩ := getF X11 hx hZ hown (host := "") (Or.inl (hw _ (List.mem_of_getElem? (i := 23) rfl))) Via.refl e11 pf_F_a1_com_example_quantail_quantail_NumberArray_items (g := (mkF m 27 #[.val (.ref a1), .val (.int (0 : Int32)), .val (.int (2 : Int32)), .val (.int (0 : Int32)), .val (.int (1 : Int32)), .val (.double w0), .second] [(.ref a1), (.int (0 : Int32)), (.ref it)])) rfl rfl (hb hby d7_27)
    refine Goes.pre st12 ?_
    show Goes p e below s _ _ _ (T12.setTop (mkF m 30 #[.val (.ref a1), .val (.int (0 : Int32)), .val (.int (2 : Int32)), .val (.int (0 : Int32)), .val (.int (1 : Int32)), .val (.double w0), .second] [(.ref it), (.int (0 : Int32)), (.ref it)]))
    refine Goes.pre (fun t kt => XS.iload X12.here hx rfl (hb hby d7_30) rfl kt) ?_
    show Goes p e below s _ _ _ (T12.setTop (mkF m 32 #[.val (.ref a1), .val (.int (0 : Int32)), .val (.int (2 : Int32)), .val (.int (0 : Int32)), .val (.int (1 : Int32)), .val (.double w0), .second] [(.int (1 : Int32)), (.ref it), (.int (0 : Int32)), (.ref it)]))
    obtain ⟨cl13, Ar13, aq13, aS13, aN13, aH13, aG13⟩ := V10
    have V13 : Arv Z h0 it kd .double (4 : Int32) [(.double w0), (.double w1), (.double w2), (.double w3)] (.double (0 : UInt64)) := ⟨cl13, Ar13, aq13, aS13, aN13, aH13, aG13⟩
    have hin13 : ¬ ((1 : Int32) < 0 ∨ cl13.slots.size ≤ ((1 : Int32)).toNatClampNeg) := inb_of aS13 ⟨by decide, by decide⟩
    have hat13 : cl13.slots[((1 : Int32)).toNatClampNeg]? = some (.double w1) := aH13.at hin13 rfl
    refine Goes.pre (X12.daload hx (j := (1 : Int32)) (v := (.double w1)) (by rw [e12]; exact Ar13.1) (State.isArrayOf_alike hZ.alike Ar13.2.1) Ar13.2.2 hin13 hat13 (g := (mkF m 32 #[.val (.ref a1), .val (.int (0 : Int32)), .val (.int (2 : Int32)), .val (.int (0 : Int32)), .val (.int (1 : Int32)), .val (.double w0), .second] [(.int (1 : Int32)), (.ref it), (.int (0 : Int32)), (.ref it)])) rfl rfl (hb hby d7_32)) ?_
    show Goes p e below s _ _ _ (T12.setTop (mkF m 33 #[.val (.ref a1), .val (.int (0 : Int32)), .val (.int (2 : Int32)), .val (.int (0 : Int32)), .val (.int (1 : Int32)), .val (.double w0), .second] [(.double w1), (.int (0 : Int32)), (.ref it)]))
    obtain ⟨cl14, Ar14, aq14, aS14, aN14, aH14, aG14⟩ := V13
    have hin14 : ¬ ((0 : Int32) < 0 ∨ cl14.slots.size ≤ ((0 : Int32)).toNatClampNeg) := inb_of aS14 ⟨by decide, by decide⟩
    obtain ⟨T14, h14, X14, e14, W14, st14⟩ := stD X12 hx hZ e12 Ar14 (j := (0 : Int32)) hin14 (g := (mkF m 33 #[.val (.ref a1), .val (.int (0 : Int32)), .val (.int (2 : Int32)), .val (.int (0 : Int32)), .val (.int (1 : Int32)), .val (.double w0), .second] [(.double w1), (.int (0 : Int32)), (.ref it)])) rfl rfl (hb hby d7_33)
    refine Goes.pre st14 ?_
    have Z14 : n0 ≤ h14.size := Nat.le_trans Z0 (Keep.of_wr W14).1
    have N14 := Fr.snoc X14 N0 pf_G_it
    have K14 := K0.wr W14 (Or.inl (List.mem_of_getElem? (i := 0) rfl))
    have V14 : Arv Z h14 it kd .double (4 : Int32) [(.double w1), (.double w1), (.double w2), (.double w3)] (.double (0 : UInt64)) := Arv.set Ar14 aq14 aS14 aN14 aH14 aG14 rfl W14 0 rfl (Nat.le_of_ble_eq_true rfl)
    show Goes p e below s _ _ _ (T14.setTop (mkF m 34 #[.val (.ref a1), .val (.int (0 : Int32)), .val (.int (2 : Int32)), .val (.int (0 : Int32)), .val (.int (1 : Int32)), .val (.double w0), .second] []))
    refine Goes.pre (fun t kt => XS.aloadN X14.here hx rfl (hb hby d7_34) rfl rfl kt) ?_
    show Goes p e below s _ _ _ (T14.setTop (mkF m 35 #[.val (.ref a1), .val (.int (0 : Int32)), .val (.int (2 : Int32)), .val (.int (0 : Int32)), .val (.int (1 : Int32)), .val (.double w0), .second] [(.ref a1)]))
    have fc15 : Fld Z h14 a1 "com/example/quantail/quantail/NumberArray" "items" "[D" (.ref it) := (pf_F_a1_com_example_quantail_quantail_NumberArray_items.other W14 (Or.inl pf_NE_a1_it))
    obtain ⟨T16, X16, e16, st16⟩ := getF X14 hx hZ hown (host := "") (Or.inl (hw _ (List.mem_of_getElem? (i := 23) rfl))) Via.refl e14 fc15 (g := (mkF m 35 #[.val (.ref a1), .val (.int (0 : Int32)), .val (.int (2 : Int32)), .val (.int (0 : Int32)), .val (.int (1 : Int32)), .val (.double w0), .second] [(.ref a1)])) rfl rfl (hb hby d7_35)
    refine Goes.pre st16 ?_
    show Goes p e below s _ _ _ (T16.setTop (mkF m 38 #[.val (.ref a1), .val (.int (0 : Int32)), .val (.int (2 : Int32)), .val (.int (0 : Int32)), .val (.int (1 : Int32)), .val (.double w0), .second] [(.ref it)]))
    refine Goes.pre (fun t kt => XS.iload X16.here hx rfl (hb hby d7_38) rfl kt) ?_
    show Goes p e below s _ _ _ (T16.setTop (mkF m 40 #[.val (.ref a1), .val (.int (0 : Int32)), .val (.int (2 : Int32)), .val (.int (0 : Int32)), .val (.int (1 : Int32)), .val (.double w0), .second] [(.int (1 : Int32)), (.ref it)]))
    refine Goes.pre (fun t kt => XS.dload X16.here hx rfl (hb hby d7_40) rfl kt) ?_
    show Goes p e below s _ _ _ (T16.setTop (mkF m 42 #[.val (.ref a1), .val (.int (0 : Int32)), .val (.int (2 : Int32)), .val (.int (0 : Int32)), .val (.int (1 : Int32)), .val (.double w0), .second] [(.double w0), (.int (1 : Int32)), (.ref it)]))
    obtain ⟨cl17, Ar17, aq17, aS17, aN17, aH17, aG17⟩ := V14
    have hin17 : ¬ ((1 : Int32) < 0 ∨ cl17.slots.size ≤ ((1 : Int32)).toNatClampNeg) := inb_of aS17 ⟨by decide, by decide⟩
    obtain ⟨T17, h17, X17, e17, W17, st17⟩ := stD X16 hx hZ e16 Ar17 (j := (1 : Int32)) hin17 (g := (mkF m 42 #[.val (.ref a1), .val (.int (0 : Int32)), .val (.int (2 : Int32)), .val (.int (0 : Int32)), .val (.int (1 : Int32)), .val (.double w0), .second] [(.double w0), (.int (1 : Int32)), (.ref it)])) rfl rfl (hb hby d7_42)
    refine Goes.pre st17 ?_
    have Z17 : n0 ≤ h17.size := Nat.le_trans Z14 (Keep.of_wr W17).1
    have N17 := Fr.snoc X17 N14 pf_G_it
    have K17 := K14.wr W17 (Or.inl (List.mem_of_getElem? (i := 0) rfl))
    have V17 : Arv Z h17 it kd .double (4 : Int32) [(.double w1), (.double w0), (.double w2), (.double w3)] (.double (0 : UInt64)) := Arv.set Ar17 aq17 aS17 aN17 aH17 aG17 rfl W17 1 rfl (Nat.le_of_ble_eq_true rfl)
    show Goes p e below s _ _ _ (T17.setTop (mkF m 43 #[.val (.ref a1), .val (.int (0 : Int32)), .val (.int (2 : Int32)), .val (.int (0 : Int32)), .val (.int (1 : Int32)), .val (.double w0), .second] []))
    refine Goes.pre (fun t kt => XS.iinc X17.here hx rfl (hb hby d7_43) rfl (l' := #[.val (.ref a1), .val (.int (0 : Int32)), .val (.int (2 : Int32)), .val (.int (1 : Int32)), .val (.int (1 : Int32)), .val (.double w0), .second]) rfl kt) ?_
    show Goes p e below s _ _ _ (T17.setTop (mkF m 46 #[.val (.ref a1), .val (.int (0 : Int32)), .val (.int (2 : Int32)), .val (.int (1 : Int32)), .val (.int (1 : Int32)), .val (.double w0), .second] []))
    refine Goes.pre (fun t kt => XS.iinc X17.here hx rfl (hb hby d7_46) rfl (l' := #[.val (.ref a1), .val (.int (0 : Int32)), .val (.int (2 : Int32)), .val (.int (1 : Int32)), .val (.int (0 : Int32)), .val (.double w0), .second]) rfl kt) ?_
    show Goes p e below s _ _ _ (T17.setTop (mkF m 49 #[.val (.ref a1), .val (.int (0 : Int32)), .val (.int (2 : Int32)), .val (.int (1 : Int32)), .val (.int (0 : Int32)), .val (.double w0), .second] []))
    refine Goes.pre (fun t kt => XS.goto X17.here hx rfl (pc0 := 49) (pc' := 7) rfl (hb hby d7_49) (by decide) (by decide) kt) ?_
    show Goes p e below s _ _ _ (T17.setTop (mkF m 7 #[.val (.ref a1), .val (.int (0 : Int32)), .val (.int (2 : Int32)), .val (.int (1 : Int32)), .val (.int (0 : Int32)), .val (.double w0), .second] []))
    refine Goes.pre (fun t kt => XS.iloadN X17.here hx rfl (hb hby d7_7) rfl kt) ?_
    show Goes p e below s _ _ _ (T17.setTop (mkF m 8 #[.val (.ref a1), .val (.int (0 : Int32)), .val (.int (2 : Int32)), .val (.int (1 : Int32)), .val (.int (0 : Int32)), .val (.double w0), .second] [(.int (1 : Int32))]))
    refine Goes.pre (fun t kt => XS.iload X17.here hx rfl (hb hby d7_8) rfl kt) ?_
    show Goes p e below s _ _ _ (T17.setTop (mkF m 10 #[.val (.ref a1), .val (.int (0 : Int32)), .val (.int (2 : Int32)), .val (.int (1 : Int32)), .val (.int (0 : Int32)), .val (.double w0), .second] [(.int (0 : Int32)), (.int (1 : Int32))]))
    refine Goes.pre (fun t kt => XS.icmpYes X17.here hx rfl (pc0 := 10) (pc' := 52) rfl (hb hby d7_10) rfl (Jvm.Free.XT.ii_ge_t ((by decide))) (by decide) (by decide) kt) ?_
    show Goes p e below s _ _ _ (T17.setTop (mkF m 52 #[.val (.ref a1), .val (.int (0 : Int32)), .val (.int (2 : Int32)), .val (.int (1 : Int32)), .val (.int (0 : Int32)), .val (.double w0), .second] []))
    have qe18 : own_e (0 : Int32) (2 : Int32) (0 : Int32) w0 w1 w2 w3 = w1 := by simp [own_e, own_pick]
    have qe19 : own_e (0 : Int32) (2 : Int32) (1 : Int32) w0 w1 w2 w3 = w0 := by simp [own_e, own_pick]
    have qe20 : own_e (0 : Int32) (2 : Int32) (2 : Int32) w0 w1 w2 w3 = w2 := by simp [own_e, own_pick]
    have qe21 : own_e (0 : Int32) (2 : Int32) (3 : Int32) w0 w1 w2 w3 = w3 := by simp [own_e, own_pick]
    refine Goes.ret X17 none (fun _ => rfl) (BodyLoose.notSynchronized Bd) (by decide) (by decide) (fun fs hr => X17.returnOut hx Bd.returns (hb hby d7_52) hr) ?_
    show Q_rm7 Z a1 (0 : Int32) (2 : Int32) it kd w0 w1 w2 w3 h0 n0 _ T17.heap _
    rw [e17]
    exact ⟨rfl, N17, K17, (by rw [qe18, qe19, qe20, qe21]; exact V17)⟩
  · show Goes p e below s _ _ _ (s₁.setTop (mkF m 0 #[.val (.ref a1), .val (.int (0 : Int32)), .val (.int (3 : Int32)), .unset, .unset, .unset, .unset] []))
    refine Goes.pre (fun t kt => XS.iloadN X0.here hx rfl (hb hby d7_0) rfl kt) ?_
    show Goes p e below s _ _ _ (s₁.setTop (mkF m 1 #[.val (.ref a1), .val (.int (0 : Int32)), .val (.int (3 : Int32)), .unset, .unset, .unset, .unset] [(.int (0 : Int32))]))
    refine Goes.pre (fun t kt => XS.istoreN X0.here hx rfl (hb hby d7_1) rfl (l' := #[.val (.ref a1), .val (.int (0 : Int32)), .val (.int (3 : Int32)), .val (.int (0 : Int32)), .unset, .unset, .unset]) rfl kt) ?_
    show Goes p e below s _ _ _ (s₁.setTop (mkF m 2 #[.val (.ref a1), .val (.int (0 : Int32)), .val (.int (3 : Int32)), .val (.int (0 : Int32)), .unset, .unset, .unset] []))
    refine Goes.pre (fun t kt => XS.iloadN X0.here hx rfl (hb hby d7_2) rfl kt) ?_
    show Goes p e below s _ _ _ (s₁.setTop (mkF m 3 #[.val (.ref a1), .val (.int (0 : Int32)), .val (.int (3 : Int32)), .val (.int (0 : Int32)), .unset, .unset, .unset] [(.int (3 : Int32))]))
    refine Goes.pre (fun t kt => XS.iconst X0.here hx rfl (hb hby d7_3) kt) ?_
    show Goes p e below s _ _ _ (s₁.setTop (mkF m 4 #[.val (.ref a1), .val (.int (0 : Int32)), .val (.int (3 : Int32)), .val (.int (0 : Int32)), .unset, .unset, .unset] [(.int (1 : Int32)), (.int (3 : Int32))]))
    refine Goes.pre (fun t kt => XS.isub X0.here hx rfl (hb hby d7_4) rfl kt) ?_
    show Goes p e below s _ _ _ (s₁.setTop (mkF m 5 #[.val (.ref a1), .val (.int (0 : Int32)), .val (.int (3 : Int32)), .val (.int (0 : Int32)), .unset, .unset, .unset] [(.int (2 : Int32))]))
    refine Goes.pre (fun t kt => XS.istore X0.here hx rfl (hb hby d7_5) rfl (l' := #[.val (.ref a1), .val (.int (0 : Int32)), .val (.int (3 : Int32)), .val (.int (0 : Int32)), .val (.int (2 : Int32)), .unset, .unset]) rfl kt) ?_
    show Goes p e below s _ _ _ (s₁.setTop (mkF m 7 #[.val (.ref a1), .val (.int (0 : Int32)), .val (.int (3 : Int32)), .val (.int (0 : Int32)), .val (.int (2 : Int32)), .unset, .unset] []))
    refine Goes.pre (fun t kt => XS.iloadN X0.here hx rfl (hb hby d7_7) rfl kt) ?_
    show Goes p e below s _ _ _ (s₁.setTop (mkF m 8 #[.val (.ref a1), .val (.int (0 : Int32)), .val (.int (3 : Int32)), .val (.int (0 : Int32)), .val (.int (2 : Int32)), .unset, .unset] [(.int (0 : Int32))]))
    refine Goes.pre (fun t kt => XS.iload X0.here hx rfl (hb hby d7_8) rfl kt) ?_
    show Goes p e below s _ _ _ (s₁.setTop (mkF m 10 #[.val (.ref a1), .val (.int (0 : Int32)), .val (.int (3 : Int32)), .val (.int (0 : Int32)), .val (.int (2 : Int32)), .unset, .unset] [(.int (2 : Int32)), (.int (0 : Int32))]))
    refine Goes.pre (fun t kt => XS.icmpNo X0.here hx rfl (hb hby d7_10) rfl (Jvm.Free.XT.ii_ge_f ((by decide))) kt) ?_
    show Goes p e below s _ _ _ (s₁.setTop (mkF m 13 #[.val (.ref a1), .val (.int (0 : Int32)), .val (.int (3 : Int32)), .val (.int (0 : Int32)), .val (.int (2 : Int32)), .unset, .unset] []))
    refine Goes.pre (fun t kt => XS.aloadN X0.here hx rfl (hb hby d7_13) rfl rfl kt) ?_
    show Goes p e below s _ _ _ (s₁.setTop (mkF m 14 #[.val (.ref a1), .val (.int (0 : Int32)), .val (.int (3 : Int32)), .val (.int (0 : Int32)), .val (.int (2 : Int32)), .unset, .unset] [(.ref a1)]))
    obtain ⟨T22, X22, e22, st22⟩ := getF X0 hx hZ hown (host := "") (Or.inl (hw _ (List.mem_of_getElem? (i := 23) rfl))) Via.refl e0 pf_F_a1_com_example_quantail_quantail_NumberArray_items (g := (mkF m 14 #[.val (.ref a1), .val (.int (0 : Int32)), .val (.int (3 : Int32)), .val (.int (0 : Int32)), .val (.int (2 : Int32)), .unset, .unset] [(.ref a1)])) rfl rfl (hb hby d7_14)
    refine Goes.pre st22 ?_
    show Goes p e below s _ _ _ (T22.setTop (mkF m 17 #[.val (.ref a1), .val (.int (0 : Int32)), .val (.int (3 : Int32)), .val (.int (0 : Int32)), .val (.int (2 : Int32)), .unset, .unset] [(.ref it)]))
    refine Goes.pre (fun t kt => XS.iloadN X22.here hx rfl (hb hby d7_17) rfl kt) ?_
    show Goes p e below s _ _ _ (T22.setTop (mkF m 18 #[.val (.ref a1), .val (.int (0 : Int32)), .val (.int (3 : Int32)), .val (.int (0 : Int32)), .val (.int (2 : Int32)), .unset, .unset] [(.int (0 : Int32)), (.ref it)]))
    obtain ⟨cl23, Ar23, aq23, aS23, aN23, aH23, aG23⟩ := pf_V_it
    have V23 : Arv Z h0 it kd .double (4 : Int32) [(.double w0), (.double w1), (.double w2), (.double w3)] (.double (0 : UInt64)) := ⟨cl23, Ar23, aq23, aS23, aN23, aH23, aG23⟩
    have hin23 : ¬ ((0 : Int32) < 0 ∨ cl23.slots.size ≤ ((0 : Int32)).toNatClampNeg) := inb_of aS23 ⟨by decide, by decide⟩
    have hat23 : cl23.slots[((0 : Int32)).toNatClampNeg]? = some (.double w0) := aH23.at hin23 rfl
    refine Goes.pre (X22.daload hx (j := (0 : Int32)) (v := (.double w0)) (by rw [e22]; exact Ar23.1) (State.isArrayOf_alike hZ.alike Ar23.2.1) Ar23.2.2 hin23 hat23 (g := (mkF m 18 #[.val (.ref a1), .val (.int (0 : Int32)), .val (.int (3 : Int32)), .val (.int (0 : Int32)), .val (.int (2 : Int32)), .unset, .unset] [(.int (0 : Int32)), (.ref it)])) rfl rfl (hb hby d7_18)) ?_
    show Goes p e below s _ _ _ (T22.setTop (mkF m 19 #[.val (.ref a1), .val (.int (0 : Int32)), .val (.int (3 : Int32)), .val (.int (0 : Int32)), .val (.int (2 : Int32)), .unset, .unset] [(.double w0)]))
    refine Goes.pre (fun t kt => XS.dstore X22.here hx rfl (hb hby d7_19) rfl (l' := #[.val (.ref a1), .val (.int (0 : Int32)), .val (.int (3 : Int32)), .val (.int (0 : Int32)), .val (.int (2 : Int32)), .val (.double w0), .second]) rfl kt) ?_
    show Goes p e below s _ _ _ (T22.setTop (mkF m 21 #[.val (.ref a1), .val (.int (0 : Int32)), .val (.int (3 : Int32)), .val (.int (0 : Int32)), .val (.int (2 : Int32)), .val (.double w0), .second] []))
    refine Goes.pre (fun t kt => XS.aloadN X22.here hx rfl (hb hby d7_21) rfl rfl kt) ?_
    show Goes p e below s _ _ _ (T22.setTop (mkF m 22 #[.val (.ref a1), .val (.int (0 : Int32)), .val (.int (3 : Int32)), .val (.int (0 : Int32)), .val (.int (2 : Int32)), .val (.double w0), .second] [(.ref a1)]))
    obtain ⟨T24, X24, e24, st24⟩ := getF X22 hx hZ hown (host := "") (Or.inl (hw _ (List.mem_of_getElem? (i := 23) rfl))) Via.refl e22 pf_F_a1_com_example_quantail_quantail_NumberArray_items (g := (mkF m 22 #[.val (.ref a1), .val (.int (0 : Int32)), .val (.int (3 : Int32)), .val (.int (0 : Int32)), .val (.int (2 : Int32)), .val (.double w0), .second] [(.ref a1)])) rfl rfl (hb hby d7_22)
    refine Goes.pre st24 ?_
    show Goes p e below s _ _ _ (T24.setTop (mkF m 25 #[.val (.ref a1), .val (.int (0 : Int32)), .val (.int (3 : Int32)), .val (.int (0 : Int32)), .val (.int (2 : Int32)), .val (.double w0), .second] [(.ref it)]))
    refine Goes.pre (fun t kt => XS.iloadN X24.here hx rfl (hb hby d7_25) rfl kt) ?_
    show Goes p e below s _ _ _ (T24.setTop (mkF m 26 #[.val (.ref a1), .val (.int (0 : Int32)), .val (.int (3 : Int32)), .val (.int (0 : Int32)), .val (.int (2 : Int32)), .val (.double w0), .second] [(.int (0 : Int32)), (.ref it)]))
    refine Goes.pre (fun t kt => XS.aloadN X24.here hx rfl (hb hby d7_26) rfl rfl kt) ?_
    show Goes p e below s _ _ _ (T24.setTop (mkF m 27 #[.val (.ref a1), .val (.int (0 : Int32)), .val (.int (3 : Int32)), .val (.int (0 : Int32)), .val (.int (2 : Int32)), .val (.double w0), .second] [(.ref a1), (.int (0 : Int32)), (.ref it)]))
    obtain ⟨T25, X25, e25, st25⟩ := getF X24 hx hZ hown (host := "") (Or.inl (hw _ (List.mem_of_getElem? (i := 23) rfl))) Via.refl e24 pf_F_a1_com_example_quantail_quantail_NumberArray_items (g := (mkF m 27 #[.val (.ref a1), .val (.int (0 : Int32)), .val (.int (3 : Int32)), .val (.int (0 : Int32)), .val (.int (2 : Int32)), .val (.double w0), .second] [(.ref a1), (.int (0 : Int32)), (.ref it)])) rfl rfl (hb hby d7_27)
    refine Goes.pre st25 ?_
    show Goes p e below s _ _ _ (T25.setTop (mkF m 30 #[.val (.ref a1), .val (.int (0 : Int32)), .val (.int (3 : Int32)), .val (.int (0 : Int32)), .val (.int (2 : Int32)), .val (.double w0), .second] [(.ref it), (.int (0 : Int32)), (.ref it)]))
    refine Goes.pre (fun t kt => XS.iload X25.here hx rfl (hb hby d7_30) rfl kt) ?_
    show Goes p e below s _ _ _ (T25.setTop (mkF m 32 #[.val (.ref a1), .val (.int (0 : Int32)), .val (.int (3 : Int32)), .val (.int (0 : Int32)), .val (.int (2 : Int32)), .val (.double w0), .second] [(.int (2 : Int32)), (.ref it), (.int (0 : Int32)), (.ref it)]))
    obtain ⟨cl26, Ar26, aq26, aS26, aN26, aH26, aG26⟩ := V23
    have V26 : Arv Z h0 it kd .double (4 : Int32) [(.double w0), (.double w1), (.double w2), (.double w3)] (.double (0 : UInt64)) := ⟨cl26, Ar26, aq26, aS26, aN26, aH26, aG26⟩
    have hin26 : ¬ ((2 : Int32) < 0 ∨ cl26.slots.size ≤ ((2 : Int32)).toNatClampNeg) := inb_of aS26 ⟨by decide, by decide⟩
    have hat26 : cl26.slots[((2 : Int32)).toNatClampNeg]? = some (.double w2) := aH26.at hin26 rfl
    refine Goes.pre (X25.daload hx (j := (2 : Int32)) (v := (.double w2)) (by rw [e25]; exact Ar26.1) (State.isArrayOf_alike hZ.alike Ar26.2.1) Ar26.2.2 hin26 hat26 (g := (mkF m 32 #[.val (.ref a1), .val (.int (0 : Int32)), .val (.int (3 : Int32)), .val (.int (0 : Int32)), .val (.int (2 : Int32)), .val (.double w0), .second] [(.int (2 : Int32)), (.ref it), (.int (0 : Int32)), (.ref it)])) rfl rfl (hb hby d7_32)) ?_
    show Goes p e below s _ _ _ (T25.setTop (mkF m 33 #[.val (.ref a1), .val (.int (0 : Int32)), .val (.int (3 : Int32)), .val (.int (0 : Int32)), .val (.int (2 : Int32)), .val (.double w0), .second] [(.double w2), (.int (0 : Int32)), (.ref it)]))
    obtain ⟨cl27, Ar27, aq27, aS27, aN27, aH27, aG27⟩ := V26
    have hin27 : ¬ ((0 : Int32) < 0 ∨ cl27.slots.size ≤ ((0 : Int32)).toNatClampNeg) := inb_of aS27 ⟨by decide, by decide⟩
    obtain ⟨T27, h27, X27, e27, W27, st27⟩ := stD X25 hx hZ e25 Ar27 (j := (0 : Int32)) hin27 (g := (mkF m 33 #[.val (.ref a1), .val (.int (0 : Int32)), .val (.int (3 : Int32)), .val (.int (0 : Int32)), .val (.int (2 : Int32)), .val (.double w0), .second] [(.double w2), (.int (0 : Int32)), (.ref it)])) rfl rfl (hb hby d7_33)
    refine Goes.pre st27 ?_
    have Z27 : n0 ≤ h27.size := Nat.le_trans Z0 (Keep.of_wr W27).1
    have N27 := Fr.snoc X27 N0 pf_G_it
    have K27 := K0.wr W27 (Or.inl (List.mem_of_getElem? (i := 0) rfl))
    have V27 : Arv Z h27 it kd .double (4 : Int32) [(.double w2), (.double w1), (.double w2), (.double w3)] (.double (0 : UInt64)) := Arv.set Ar27 aq27 aS27 aN27 aH27 aG27 rfl W27 0 rfl (Nat.le_of_ble_eq_true rfl)
    show Goes p e below s _ _ _ (T27.setTop (mkF m 34 #[.val (.ref a1), .val (.int (0 : Int32)), .val (.int (3 : Int32)), .val (.int (0 : Int32)), .val (.int (2 : Int32)), .val (.double w0), .second] []))
    refine Goes.pre (fun t kt => XS.aloadN X27.here hx rfl (hb hby d7_34) rfl rfl kt) ?_
    show Goes p e below s _ _ _ (T27.setTop (mkF m 35 #[.val (.ref a1), .val (.int (0 : Int32)), .val (.int (3 : Int32)), .val (.int (0 : Int32)), .val (.int (2 : Int32)), .val (.double w0), .second] [(.ref a1)]))
    have fc28 : Fld Z h27 a1 "com/example/quantail/quantail/NumberArray" "items" "[D" (.ref it) := (pf_F_a1_com_example_quantail_quantail_NumberArray_items.other W27 (Or.inl pf_NE_a1_it))
    obtain ⟨T29, X29, e29, st29⟩ := getF X27 hx hZ hown (host := "") (Or.inl (hw _ (List.mem_of_getElem? (i := 23) rfl))) Via.refl e27 fc28 (g := (mkF m 35 #[.val (.ref a1), .val (.int (0 : Int32)), .val (.int (3 : Int32)), .val (.int (0 : Int32)), .val (.int (2 : Int32)), .val (.double w0), .second] [(.ref a1)])) rfl rfl (hb hby d7_35)
    refine Goes.pre st29 ?_
    show Goes p e below s _ _ _ (T29.setTop (mkF m 38 #[.val (.ref a1), .val (.int (0 : Int32)), .val (.int (3 : Int32)), .val (.int (0 : Int32)), .val (.int (2 : Int32)), .val (.double w0), .second] [(.ref it)]))
    refine Goes.pre (fun t kt => XS.iload X29.here hx rfl (hb hby d7_38) rfl kt) ?_
    show Goes p e below s _ _ _ (T29.setTop (mkF m 40 #[.val (.ref a1), .val (.int (0 : Int32)), .val (.int (3 : Int32)), .val (.int (0 : Int32)), .val (.int (2 : Int32)), .val (.double w0), .second] [(.int (2 : Int32)), (.ref it)]))
    refine Goes.pre (fun t kt => XS.dload X29.here hx rfl (hb hby d7_40) rfl kt) ?_
    show Goes p e below s _ _ _ (T29.setTop (mkF m 42 #[.val (.ref a1), .val (.int (0 : Int32)), .val (.int (3 : Int32)), .val (.int (0 : Int32)), .val (.int (2 : Int32)), .val (.double w0), .second] [(.double w0), (.int (2 : Int32)), (.ref it)]))
    obtain ⟨cl30, Ar30, aq30, aS30, aN30, aH30, aG30⟩ := V27
    have hin30 : ¬ ((2 : Int32) < 0 ∨ cl30.slots.size ≤ ((2 : Int32)).toNatClampNeg) := inb_of aS30 ⟨by decide, by decide⟩
    obtain ⟨T30, h30, X30, e30, W30, st30⟩ := stD X29 hx hZ e29 Ar30 (j := (2 : Int32)) hin30 (g := (mkF m 42 #[.val (.ref a1), .val (.int (0 : Int32)), .val (.int (3 : Int32)), .val (.int (0 : Int32)), .val (.int (2 : Int32)), .val (.double w0), .second] [(.double w0), (.int (2 : Int32)), (.ref it)])) rfl rfl (hb hby d7_42)
    refine Goes.pre st30 ?_
    have Z30 : n0 ≤ h30.size := Nat.le_trans Z27 (Keep.of_wr W30).1
    have N30 := Fr.snoc X30 N27 pf_G_it
    have K30 := K27.wr W30 (Or.inl (List.mem_of_getElem? (i := 0) rfl))
    have V30 : Arv Z h30 it kd .double (4 : Int32) [(.double w2), (.double w1), (.double w0), (.double w3)] (.double (0 : UInt64)) := Arv.set Ar30 aq30 aS30 aN30 aH30 aG30 rfl W30 2 rfl (Nat.le_of_ble_eq_true rfl)
    show Goes p e below s _ _ _ (T30.setTop (mkF m 43 #[.val (.ref a1), .val (.int (0 : Int32)), .val (.int (3 : Int32)), .val (.int (0 : Int32)), .val (.int (2 : Int32)), .val (.double w0), .second] []))
    refine Goes.pre (fun t kt => XS.iinc X30.here hx rfl (hb hby d7_43) rfl (l' := #[.val (.ref a1), .val (.int (0 : Int32)), .val (.int (3 : Int32)), .val (.int (1 : Int32)), .val (.int (2 : Int32)), .val (.double w0), .second]) rfl kt) ?_
    show Goes p e below s _ _ _ (T30.setTop (mkF m 46 #[.val (.ref a1), .val (.int (0 : Int32)), .val (.int (3 : Int32)), .val (.int (1 : Int32)), .val (.int (2 : Int32)), .val (.double w0), .second] []))
    refine Goes.pre (fun t kt => XS.iinc X30.here hx rfl (hb hby d7_46) rfl (l' := #[.val (.ref a1), .val (.int (0 : Int32)), .val (.int (3 : Int32)), .val (.int (1 : Int32)), .val (.int (1 : Int32)), .val (.double w0), .second]) rfl kt) ?_
    show Goes p e below s _ _ _ (T30.setTop (mkF m 49 #[.val (.ref a1), .val (.int (0 : Int32)), .val (.int (3 : Int32)), .val (.int (1 : Int32)), .val (.int (1 : Int32)), .val (.double w0), .second] []))
    refine Goes.pre (fun t kt => XS.goto X30.here hx rfl (pc0 := 49) (pc' := 7) rfl (hb hby d7_49) (by decide) (by decide) kt) ?_
    show Goes p e below s _ _ _ (T30.setTop (mkF m 7 #[.val (.ref a1), .val (.int (0 : Int32)), .val (.int (3 : Int32)), .val (.int (1 : Int32)), .val (.int (1 : Int32)), .val (.double w0), .second] []))
    refine Goes.pre (fun t kt => XS.iloadN X30.here hx rfl (hb hby d7_7) rfl kt) ?_
    show Goes p e below s _ _ _ (T30.setTop (mkF m 8 #[.val (.ref a1), .val (.int (0 : Int32)), .val (.int (3 : Int32)), .val (.int (1 : Int32)), .val (.int (1 : Int32)), .val (.double w0), .second] [(.int (1 : Int32))]))
    refine Goes.pre (fun t kt => XS.iload X30.here hx rfl (hb hby d7_8) rfl kt) ?_
    show Goes p e below s _ _ _ (T30.setTop (mkF m 10 #[.val (.ref a1), .val (.int (0 : Int32)), .val (.int (3 : Int32)), .val (.int (1 : Int32)), .val (.int (1 : Int32)), .val (.double w0), .second] [(.int (1 : Int32)), (.int (1 : Int32))]))
    refine Goes.pre (fun t kt => XS.icmpYes X30.here hx rfl (pc0 := 10) (pc' := 52) rfl (hb hby d7_10) rfl (Jvm.Free.XT.ii_ge_t ((by decide))) (by decide) (by decide) kt) ?_
    show Goes p e below s _ _ _ (T30.setTop (mkF m 52 #[.val (.ref a1), .val (.int (0 : Int32)), .val (.int (3 : Int32)), .val (.int (1 : Int32)), .val (.int (1 : Int32)), .val (.double w0), .second] []))
    have qe31 : own_e (0 : Int32) (3 : Int32) (0 : Int32) w0 w1 w2 w3 = w2 := by simp [own_e, own_pick]
    have qe32 : own_e (0 : Int32) (3 : Int32) (1 : Int32) w0 w1 w2 w3 = w1 := by simp [own_e, own_pick]
    have qe33 : own_e (0 : Int32) (3 : Int32) (2 : Int32) w0 w1 w2 w3 = w0 := by simp [own_e, own_pick]
    have qe34 : own_e (0 : Int32) (3 : Int32) (3 : Int32) w0 w1 w2 w3 = w3 := by simp [own_e, own_pick]
    refine Goes.ret X30 none (fun _ => rfl) (BodyLoose.notSynchronized Bd) (by decide) (by decide) (fun fs hr => X30.returnOut hx Bd.returns (hb hby d7_52) hr) ?_
    show Q_rm7 Z a1 (0 : Int32) (3 : Int32) it kd w0 w1 w2 w3 h0 n0 _ T30.heap _
    rw [e30]
    exact ⟨rfl, N30, K30, (by rw [qe31, qe32, qe33, qe34]; exact V30)⟩
  · show Goes p e below s _ _ _ (s₁.setTop (mkF m 0 #[.val (.ref a1), .val (.int (0 : Int32)), .val (.int (4 : Int32)), .unset, .unset, .unset, .unset] []))
    refine Goes.pre (fun t kt => XS.iloadN X0.here hx rfl (hb hby d7_0) rfl kt) ?_
    show Goes p e below s _ _ _ (s₁.setTop (mkF m 1 #[.val (.ref a1), .val (.int (0 : Int32)), .val (.int (4 : Int32)), .unset, .unset, .unset, .unset] [(.int (0 : Int32))]))
    refine Goes.pre (fun t kt => XS.istoreN X0.here hx rfl (hb hby d7_1) rfl (l' := #[.val (.ref a1), .val (.int (0 : Int32)), .val (.int (4 : Int32)), .val (.int (0 : Int32)), .unset, .unset, .unset]) rfl kt) ?_
    show Goes p e below s _ _ _ (s₁.setTop (mkF m 2 #[.val (.ref a1), .val (.int (0 : Int32)), .val (.int (4 : Int32)), .val (.int (0 : Int32)), .unset, .unset, .unset] []))
    refine Goes.pre (fun t kt => XS.iloadN X0.here hx rfl (hb hby d7_2) rfl kt) ?_
    show Goes p e below s _ _ _ (s₁.setTop (mkF m 3 #[.val (.ref a1), .val (.int (0 : Int32)), .val (.int (4 : Int32)), .val (.int (0 : Int32)), .unset, .unset, .unset] [(.int (4 : Int32))]))
    refine Goes.pre (fun t kt => XS.iconst X0.here hx rfl (hb hby d7_3) kt) ?_
    show Goes p e below s _ _ _ (s₁.setTop (mkF m 4 #[.val (.ref a1), .val (.int (0 : Int32)), .val (.int (4 : Int32)), .val (.int (0 : Int32)), .unset, .unset, .unset] [(.int (1 : Int32)), (.int (4 : Int32))]))
    refine Goes.pre (fun t kt => XS.isub X0.here hx rfl (hb hby d7_4) rfl kt) ?_
    show Goes p e below s _ _ _ (s₁.setTop (mkF m 5 #[.val (.ref a1), .val (.int (0 : Int32)), .val (.int (4 : Int32)), .val (.int (0 : Int32)), .unset, .unset, .unset] [(.int (3 : Int32))]))
    refine Goes.pre (fun t kt => XS.istore X0.here hx rfl (hb hby d7_5) rfl (l' := #[.val (.ref a1), .val (.int (0 : Int32)), .val (.int (4 : Int32)), .val (.int (0 : Int32)), .val (.int (3 : Int32)), .unset, .unset]) rfl kt) ?_
    show Goes p e below s _ _ _ (s₁.setTop (mkF m 7 #[.val (.ref a1), .val (.int (0 : Int32)), .val (.int (4 : Int32)), .val (.int (0 : Int32)), .val (.int (3 : Int32)), .unset, .unset] []))
    refine Goes.pre (fun t kt => XS.iloadN X0.here hx rfl (hb hby d7_7) rfl kt) ?_
    show Goes p e below s _ _ _ (s₁.setTop (mkF m 8 #[.val (.ref a1), .val (.int (0 : Int32)), .val (.int (4 : Int32)), .val (.int (0 : Int32)), .val (.int (3 : Int32)), .unset, .unset] [(.int (0 : Int32))]))
    refine Goes.pre (fun t kt => XS.iload X0.here hx rfl (hb hby d7_8) rfl kt) ?_
    show Goes p e below s _ _ _ (s₁.setTop (mkF m 10 #[.val (.ref a1), .val (.int (0 : Int32)), .val (.int (4 : Int32)), .val (.int (0 : Int32)), .val (.int (3 : Int32)), .unset, .unset] [(.int (3 : Int32)), (.int (0 : Int32))]))
    refine Goes.pre (fun t kt => XS.icmpNo X0.here hx rfl (hb hby d7_10) rfl (Jvm.Free.XT.ii_ge_f ((by decide))) kt) ?_
    show Goes p e below s _ _ _ (s₁.setTop (mkF m 13 #[.val (.ref a1), .val (.int (0 : Int32)), .val (.int (4 : Int32)), .val (.int (0 : Int32)), .val (.int (3 : Int32)), .unset, .unset] []))
    refine Goes.pre (fun t kt => XS.aloadN X0.here hx rfl (hb hby d7_13) rfl rfl kt) ?_
    show Goes p e below s _ _ _ (s₁.setTop (mkF m 14 #[.val (.ref a1), .val (.int (0 : Int32)), .val (.int (4 : Int32)), .val (.int (0 : Int32)), .val (.int (3 : Int32)), .unset, .unset] [(.ref a1)]))
    obtain ⟨T35, X35, e35, st35⟩ := getF X0 hx hZ hown (host := "") (Or.inl (hw _ (List.mem_of_getElem? (i := 23) rfl))) Via.refl e0 pf_F_a1_com_example_quantail_quantail_NumberArray_items (g := (mkF m 14 #[.val (.ref a1), .val (.int (0 : Int32)), .val (.int (4 : Int32)), .val (.int (0 : Int32)), .val (.int (3 : Int32)), .unset, .unset] [(.ref a1)])) rfl rfl (hb hby d7_14)
    refine Goes.pre st35 ?_
    show Goes p e below s _ _ _ (T35.setTop (mkF m 17 #[.val (.ref a1), .val (.int (0 : Int32)), .val (.int (4 : Int32)), .val (.int (0 : Int32)), .val (.int (3 : Int32)), .unset, .unset] [(.ref it)]))
    refine Goes.pre (fun t kt => XS.iloadN X35.here hx rfl (hb hby d7_17) rfl kt) ?_
    show Goes p e below s _ _ _ (T35.setTop (mkF m 18 #[.val (.ref a1), .val (.int (0 : Int32)), .val (.int (4 : Int32)), .val (.int (0 : Int32)), .val (.int (3 : Int32)), .unset, .unset] [(.int (0 : Int32)), (.ref it)]))
    obtain ⟨cl36, Ar36, aq36, aS36, aN36, aH36, aG36⟩ := pf_V_it
    have V36 : Arv Z h0 it kd .double (4 : Int32) [(.double w0), (.double w1), (.double w2), (.double w3)] (.double (0 : UInt64)) := ⟨cl36, Ar36, aq36, aS36, aN36, aH36, aG36⟩
    have hin36 : ¬ ((0 : Int32) < 0 ∨ cl36.slots.size ≤ ((0 : Int32)).toNatClampNeg) := inb_of aS36 ⟨by decide, by decide⟩
    have hat36 : cl36.slots[((0 : Int32)).toNatClampNeg]? = some (.double w0) := aH36.at hin36 rfl
    refine Goes.pre (X35.daload hx (j := (0 : Int32)) (v := (.double w0)) (by rw [e35]; exact Ar36.1) (State.isArrayOf_alike hZ.alike Ar36.2.1) Ar36.2.2 hin36 hat36 (g := (mkF m 18 #[.val (.ref a1), .val (.int (0 : Int32)), .val (.int (4 : Int32)), .val (.int (0 : Int32)), .val (.int (3 : Int32)), .unset, .unset] [(.int (0 : Int32)), (.ref it)])) rfl rfl (hb hby d7_18)) ?_
    show Goes p e below s _ _ _ (T35.setTop (mkF m 19 #[.val (.ref a1), .val (.int (0 : Int32)), .val (.int (4 : Int32)), .val (.int (0 : Int32)), .val (.int (3 : Int32)), .unset, .unset] [(.double w0)]))
    refine Goes.pre (fun t kt => XS.dstore X35.here hx rfl (hb hby d7_19) rfl (l' := #[.val (.ref a1), .val (.int (0 : Int32)), .val (.int (4 : Int32)), .val (.int (0 : Int32)), .val (.int (3 : Int32)), .val (.double w0), .second]) rfl kt) ?_
    show Goes p e below s _ _ _ (T35.setTop (mkF m 21 #[.val (.ref a1), .val (.int (0 : Int32)), .val (.int (4 : Int32)), .val (.int (0 : Int32)), .val (.int (3 : Int32)), .val (.double w0), .second] []))
    refine Goes.pre (fun t kt => XS.aloadN X35.here hx rfl (hb hby d7_21) rfl rfl kt) ?_
    show Goes p e below s _ _ _ (T35.setTop (mkF m 22 #[.val (.ref a1), .val (.int (0 : Int32)), .val (.int (4 : Int32)), .val (.int (0 : Int32)), .val (.int (3 : Int32)), .val (.double w0), .second] [(.ref a1)]))
    obtain ⟨T37, X37, e37, st37⟩ := getF X35 hx hZ hown (host := "") (Or.inl (hw _ (List.mem_of_getElem? (i := 23) rfl))) Via.refl e35 pf_F_a1_com_example_quantail_quantail_NumberArray_items (g := (mkF m 22 #[.val (.ref a1), .val (.int (0 : Int32)), .val (.int (4 : Int32)), .val (.int (0 : Int32)), .val (.int (3 : Int32)), .val (.double w0), .second] [(.ref a1)])) rfl rfl (hb hby d7_22)
    refine Goes.pre st37 ?_
    show Goes p e below s _ _ _ (T37.setTop (mkF m 25 #[.val (.ref a1), .val (.int (0 : Int32)), .val (.int (4 : Int32)), .val (.int (0 : Int32)), .val (.int (3 : Int32)), .val (.double w0), .second] [(.ref it)]))
    refine Goes.pre (fun t kt => XS.iloadN X37.here hx rfl (hb hby d7_25) rfl kt) ?_
    show Goes p e below s _ _ _ (T37.setTop (mkF m 26 #[.val (.ref a1), .val (.int (0 : Int32)), .val (.int (4 : Int32)), .val (.int (0 : Int32)), .val (.int (3 : Int32)), .val (.double w0), .second] [(.int (0 : Int32)), (.ref it)]))
    refine Goes.pre (fun t kt => XS.aloadN X37.here hx rfl (hb hby d7_26) rfl rfl kt) ?_
    show Goes p e below s _ _ _ (T37.setTop (mkF m 27 #[.val (.ref a1), .val (.int (0 : Int32)), .val (.int (4 : Int32)), .val (.int (0 : Int32)), .val (.int (3 : Int32)), .val (.double w0), .second] [(.ref a1), (.int (0 : Int32)), (.ref it)]))
    obtain ⟨T38, X38, e38, st38⟩ := getF X37 hx hZ hown (host := "") (Or.inl (hw _ (List.mem_of_getElem? (i := 23) rfl))) Via.refl e37 pf_F_a1_com_example_quantail_quantail_NumberArray_items (g := (mkF m 27 #[.val (.ref a1), .val (.int (0 : Int32)), .val (.int (4 : Int32)), .val (.int (0 : Int32)), .val (.int (3 : Int32)), .val (.double w0), .second] [(.ref a1), (.int (0 : Int32)), (.ref it)])) rfl rfl (hb hby d7_27)
    refine Goes.pre st38 ?_
    show Goes p e below s _ _ _ (T38.setTop (mkF m 30 #[.val (.ref a1), .val (.int (0 : Int32)), .val (.int (4 : Int32)), .val (.int (0 : Int32)), .val (.int (3 : Int32)), .val (.double w0), .second] [(.ref it), (.int (0 : Int32)), (.ref it)]))
    refine Goes.pre (fun t kt => XS.iload X38.here hx rfl (hb hby d7_30) rfl kt) ?_
    show Goes p e below s _ _ _ (T38.setTop (mkF m 32 #[.val (.ref a1), .val (.int (0 : Int32)), .val (.int (4 : Int32)), .val (.int (0 : Int32)), .val (.int (3 : Int32)), .val (.double w0), .second] [(.int (3 : Int32)), (.ref it), (.int (0 : Int32)), (.ref it)]))
    obtain ⟨cl39, Ar39, aq39, aS39, aN39, aH39, aG39⟩ := V36
    have V39 : Arv Z h0 it kd .double (4 : Int32) [(.double w0), (.double w1), (.double w2), (.double w3)] (.double (0 : UInt64)) := ⟨cl39, Ar39, aq39, aS39, aN39, aH39, aG39⟩
    have hin39 : ¬ ((3 : Int32) < 0 ∨ cl39.slots.size ≤ ((3 : Int32)).toNatClampNeg) := inb_of aS39 ⟨by decide, by decide⟩
    have hat39 : cl39.slots[((3 : Int32)).toNatClampNeg]? = some (.double w3) := aH39.at hin39 rfl
    refine Goes.pre (X38.daload hx (j := (3 : Int32)) (v := (.double w3)) (by rw [e38]; exact Ar39.1) (State.isArrayOf_alike hZ.alike Ar39.2.1) Ar39.2.2 hin39 hat39 (g := (mkF m 32 #[.val (.ref a1), .val (.int (0 : Int32)), .val (.int (4 : Int32)), .val (.int (0 : Int32)), .val (.int (3 : Int32)), .val (.double w0), .second] [(.int (3 : Int32)), (.ref it), (.int (0 : Int32)), (.ref it)])) rfl rfl (hb hby d7_32)) ?_
    show Goes p e below s _ _ _ (T38.setTop (mkF m 33 #[.val (.ref a1), .val (.int (0 : Int32)), .val (.int (4 : Int32)), .val (.int (0 : Int32)), .val (.int (3 : Int32)), .val (.double w0), .second] [(.double w3), (.int (0 : Int32)), (.ref it)]))
    obtain ⟨cl40, Ar40, aq40, aS40, aN40, aH40, aG40⟩ := V39
    have hin40 : ¬ ((0 : Int32) < 0 ∨ cl40.slots.size ≤ ((0 : Int32)).toNatClampNeg) := inb_of aS40 ⟨by decide, by decide⟩
    obtain ⟨T40, h40, X40, e40, W40, st40⟩ := stD X38 hx hZ e38 Ar40 (j := (0 : Int32)) hin40 (g := (mkF m 33 #[.val (.ref a1), .val (.int (0 : Int32)), .val (.int (4 : Int32)), .val (.int (0 : Int32)), .val (.int (3 : Int32)), .val (.double w0), .second] [(.double w3), (.int (0 : Int32)), (.ref it)])) rfl rfl (hb hby d7_33)
    refine Goes.pre st40 ?_
    have Z40 : n0 ≤ h40.size := Nat.le_trans Z0 (Keep.of_wr W40).1
    have N40 := Fr.snoc X40 N0 pf_G_it
    have K40 := K0.wr W40 (Or.inl (List.mem_of_getElem? (i := 0) rfl))
    have V40 : Arv Z h40 it kd .double (4 : Int32) [(.double w3), (.double w1), (.double w2), (.double w3)] (.double (0 : UInt64)) := Arv.set Ar40 aq40 aS40 aN40 aH40 aG40 rfl W40 0 rfl (Nat.le_of_ble_eq_true rfl)
    show Goes p e below s _ _ _ (T40.setTop (mkF m 34 #[.val (.ref a1), .val (.int (0 : Int32)), .val (.int (4 : Int32)), .val (.int (0 : Int32)), .val (.int (3 : Int32)), .val (.double w0), .second] []))
    refine Goes.pre (fun t kt => XS.aloadN X40.here hx rfl (hb hby d7_34) rfl rfl kt) ?_
    show Goes p e below s _ _ _ (T40.setTop (mkF m 35 #[.val (.ref a1), .val (.int (0 : Int32)), .val (.int (4 : Int32)), .val (.int (0 : Int32)), .val (.int (3 : Int32)), .val (.double w0), .second] [(.ref a1)]))
    have fc41 : Fld Z h40 a1 "com/example/quantail/quantail/NumberArray" "items" "[D" (.ref it) := (pf_F_a1_com_example_quantail_quantail_NumberArray_items.other W40 (Or.inl pf_NE_a1_it))
    obtain ⟨T42, X42, e42, st42⟩ := getF X40 hx hZ hown (host := "") (Or.inl (hw _ (List.mem_of_getElem? (i := 23) rfl))) Via.refl e40 fc41 (g := (mkF m 35 #[.val (.ref a1), .val (.int (0 : Int32)), .val (.int (4 : Int32)), .val (.int (0 : Int32)), .val (.int (3 : Int32)), .val (.double w0), .second] [(.ref a1)])) rfl rfl (hb hby d7_35)
    refine Goes.pre st42 ?_
    show Goes p e below s _ _ _ (T42.setTop (mkF m 38 #[.val (.ref a1), .val (.int (0 : Int32)), .val (.int (4 : Int32)), .val (.int (0 : Int32)), .val (.int (3 : Int32)), .val (.double w0), .second] [(.ref it)]))
    refine Goes.pre (fun t kt => XS.iload X42.here hx rfl (hb hby d7_38) rfl kt) ?_
    show Goes p e below s _ _ _ (T42.setTop (mkF m 40 #[.val (.ref a1), .val (.int (0 : Int32)), .val (.int (4 : Int32)), .val (.int (0 : Int32)), .val (.int (3 : Int32)), .val (.double w0), .second] [(.int (3 : Int32)), (.ref it)]))
    refine Goes.pre (fun t kt => XS.dload X42.here hx rfl (hb hby d7_40) rfl kt) ?_
    show Goes p e below s _ _ _ (T42.setTop (mkF m 42 #[.val (.ref a1), .val (.int (0 : Int32)), .val (.int (4 : Int32)), .val (.int (0 : Int32)), .val (.int (3 : Int32)), .val (.double w0), .second] [(.double w0), (.int (3 : Int32)), (.ref it)]))
    obtain ⟨cl43, Ar43, aq43, aS43, aN43, aH43, aG43⟩ := V40
    have hin43 : ¬ ((3 : Int32) < 0 ∨ cl43.slots.size ≤ ((3 : Int32)).toNatClampNeg) := inb_of aS43 ⟨by decide, by decide⟩
    obtain ⟨T43, h43, X43, e43, W43, st43⟩ := stD X42 hx hZ e42 Ar43 (j := (3 : Int32)) hin43 (g := (mkF m 42 #[.val (.ref a1), .val (.int (0 : Int32)), .val (.int (4 : Int32)), .val (.int (0 : Int32)), .val (.int (3 : Int32)), .val (.double w0), .second] [(.double w0), (.int (3 : Int32)), (.ref it)])) rfl rfl (hb hby d7_42)
    refine Goes.pre st43 ?_
    have Z43 : n0 ≤ h43.size := Nat.le_trans Z40 (Keep.of_wr W43).1
    have N43 := Fr.snoc X43 N40 pf_G_it
    have K43 := K40.wr W43 (Or.inl (List.mem_of_getElem? (i := 0) rfl))
    have V43 : Arv Z h43 it kd .double (4 : Int32) [(.double w3), (.double w1), (.double w2), (.double w0)] (.double (0 : UInt64)) := Arv.set Ar43 aq43 aS43 aN43 aH43 aG43 rfl W43 3 rfl (Nat.le_of_ble_eq_true rfl)
    show Goes p e below s _ _ _ (T43.setTop (mkF m 43 #[.val (.ref a1), .val (.int (0 : Int32)), .val (.int (4 : Int32)), .val (.int (0 : Int32)), .val (.int (3 : Int32)), .val (.double w0), .second] []))
    refine Goes.pre (fun t kt => XS.iinc X43.here hx rfl (hb hby d7_43) rfl (l' := #[.val (.ref a1), .val (.int (0 : Int32)), .val (.int (4 : Int32)), .val (.int (1 : Int32)), .val (.int (3 : Int32)), .val (.double w0), .second]) rfl kt) ?_
    show Goes p e below s _ _ _ (T43.setTop (mkF m 46 #[.val (.ref a1), .val (.int (0 : Int32)), .val (.int (4 : Int32)), .val (.int (1 : Int32)), .val (.int (3 : Int32)), .val (.double w0), .second] []))
    refine Goes.pre (fun t kt => XS.iinc X43.here hx rfl (hb hby d7_46) rfl (l' := #[.val (.ref a1), .val (.int (0 : Int32)), .val (.int (4 : Int32)), .val (.int (1 : Int32)), .val (.int (2 : Int32)), .val (.double w0), .second]) rfl kt) ?_
    show Goes p e below s _ _ _ (T43.setTop (mkF m 49 #[.val (.ref a1), .val (.int (0 : Int32)), .val (.int (4 : Int32)), .val (.int (1 : Int32)), .val (.int (2 : Int32)), .val (.double w0), .second] []))
    refine Goes.pre (fun t kt => XS.goto X43.here hx rfl (pc0 := 49) (pc' := 7) rfl (hb hby d7_49) (by decide) (by decide) kt) ?_
    show Goes p e below s _ _ _ (T43.setTop (mkF m 7 #[.val (.ref a1), .val (.int (0 : Int32)), .val (.int (4 : Int32)), .val (.int (1 : Int32)), .val (.int (2 : Int32)), .val (.double w0), .second] []))
    refine Goes.pre (fun t kt => XS.iloadN X43.here hx rfl (hb hby d7_7) rfl kt) ?_
    show Goes p e below s _ _ _ (T43.setTop (mkF m 8 #[.val (.ref a1), .val (.int (0 : Int32)), .val (.int (4 : Int32)), .val (.int (1 : Int32)), .val (.int (2 : Int32)), .val (.double w0), .second] [(.int (1 : Int32))]))
    refine Goes.pre (fun t kt => XS.iload X43.here hx rfl (hb hby d7_8) rfl kt) ?_
    show Goes p e below s _ _ _ (T43.setTop (mkF m 10 #[.val (.ref a1), .val (.int (0 : Int32)), .val (.int (4 : Int32)), .val (.int (1 : Int32)), .val (.int (2 : Int32)), .val (.double w0), .second] [(.int (2 : Int32)), (.int (1 : Int32))]))
    refine Goes.pre (fun t kt => XS.icmpNo X43.here hx rfl (hb hby d7_10) rfl (Jvm.Free.XT.ii_ge_f ((by decide))) kt) ?_
    show Goes p e below s _ _ _ (T43.setTop (mkF m 13 #[.val (.ref a1), .val (.int (0 : Int32)), .val (.int (4 : Int32)), .val (.int (1 : Int32)), .val (.int (2 : Int32)), .val (.double w0), .second] []))
    refine Goes.pre (fun t kt => XS.aloadN X43.here hx rfl (hb hby d7_13) rfl rfl kt) ?_
    show Goes p e below s _ _ _ (T43.setTop (mkF m 14 #[.val (.ref a1), .val (.int (0 : Int32)), .val (.int (4 : Int32)), .val (.int (1 : Int32)), .val (.int (2 : Int32)), .val (.double w0), .second] [(.ref a1)]))
    have fc44 : Fld Z h43 a1 "com/example/quantail/quantail/NumberArray" "items" "[D" (.ref it) := (fc41.other W43 (Or.inl pf_NE_a1_it))
    obtain ⟨T45, X45, e45, st45⟩ := getF X43 hx hZ hown (host := "") (Or.inl (hw _ (List.mem_of_getElem? (i := 23) rfl))) Via.refl e43 fc44 (g := (mkF m 14 #[.val (.ref a1), .val (.int (0 : Int32)), .val (.int (4 : Int32)), .val (.int (1 : Int32)), .val (.int (2 : Int32)), .val (.double w0), .second] [(.ref a1)])) rfl rfl (hb hby d7_14)
    refine Goes.pre st45 ?_
    show Goes p e below s _ _ _ (T45.setTop (mkF m 17 #[.val (.ref a1), .val (.int (0 : Int32)), .val (.int (4 : Int32)), .val (.int (1 : Int32)), .val (.int (2 : Int32)), .val (.double w0), .second] [(.ref it)]))
    refine Goes.pre (fun t kt => XS.iloadN X45.here hx rfl (hb hby d7_17) rfl kt) ?_
    show Goes p e below s _ _ _ (T45.setTop (mkF m 18 #[.val (.ref a1), .val (.int (0 : Int32)), .val (.int (4 : Int32)), .val (.int (1 : Int32)), .val (.int (2 : Int32)), .val (.double w0), .second] [(.int (1 : Int32)), (.ref it)]))
    obtain ⟨cl46, Ar46, aq46, aS46, aN46, aH46, aG46⟩ := V43
    have V46 : Arv Z h43 it kd .double (4 : Int32) [(.double w3), (.double w1), (.double w2), (.double w0)] (.double (0 : UInt64)) := ⟨cl46, Ar46, aq46, aS46, aN46, aH46, aG46⟩
    have hin46 : ¬ ((1 : Int32) < 0 ∨ cl46.slots.size ≤ ((1 : Int32)).toNatClampNeg) := inb_of aS46 ⟨by decide, by decide⟩
    have hat46 : cl46.slots[((1 : Int32)).toNatClampNeg]? = some (.double w1) := aH46.at hin46 rfl
    refine Goes.pre (X45.daload hx (j := (1 : Int32)) (v := (.double w1)) (by rw [e45]; exact Ar46.1) (State.isArrayOf_alike hZ.alike Ar46.2.1) Ar46.2.2 hin46 hat46 (g := (mkF m 18 #[.val (.ref a1), .val (.int (0 : Int32)), .val (.int (4 : Int32)), .val (.int (1 : Int32)), .val (.int (2 : Int32)), .val (.double w0), .second] [(.int (1 : Int32)), (.ref it)])) rfl rfl (hb hby d7_18)) ?_
    show Goes p e below s _ _ _ (T45.setTop (mkF m 19 #[.val (.ref a1), .val (.int (0 : Int32)), .val (.int (4 : Int32)), .val (.int (1 : Int32)), .val (.int (2 : Int32)), .val (.double w0), .second] [(.double w1)]))
    refine Goes.pre (fun t kt => XS.dstore X45.here hx rfl (hb hby d7_19) rfl (l' := #[.val (.ref a1), .val (.int (0 : Int32)), .val (.int (4 : Int32)), .val (.int (1 : Int32)), .val (.int (2 : Int32)), .val (.double w1), .second]) rfl kt) ?_
    show Goes p e below s _ _ _ (T45.setTop (mkF m 21 #[.val (.ref a1), .val (.int (0 : Int32)), .val (.int (4 : Int32)), .val (.int (1 : Int32)), .val (.int (2 : Int32)), .val (.double w1), .second] []))
    refine Goes.pre (fun t kt => XS.aloadN X45.here hx rfl (hb hby d7_21) rfl rfl kt) ?_
    show Goes p e below s _ _ _ (T45.setTop (mkF m 22 #[.val (.ref a1), .val (.int (0 : Int32)), .val (.int (4 : Int32)), .val (.int (1 : Int32)), .val (.int (2 : Int32)), .val (.double w1), .second] [(.ref a1)]))
    obtain ⟨T47, X47, e47, st47⟩ := getF X45 hx hZ hown (host := "") (Or.inl (hw _ (List.mem_of_getElem? (i := 23) rfl))) Via.refl e45 fc44 (g := (mkF m 22 #[.val (.ref a1), .val (.int (0 : Int32)), .val (.int (4 : Int32)), .val (.int (1 : Int32)), .val (.int (2 : Int32)), .val (.double w1), .second] [(.ref a1)])) rfl rfl (hb hby d7_22)
    refine Goes.pre st47 ?_
    show Goes p e below s _ _ _ (T47.setTop (mkF m 25 #[.val (.ref a1), .val (.int (0 : Int32)), .val (.int (4 : Int32)), .val (.int (1 : Int32)), .val (.int (2 : Int32)), .val (.double w1), .second] [(.ref it)]))
    refine Goes.pre (fun t kt => XS.iloadN X47.here hx rfl (hb hby d7_25) rfl kt) ?_
    show Goes p e below s _ _ _ (T47.setTop (mkF m 26 #[.val (.ref a1), .val (.int (0 : Int32)), .val (.int (4 : Int32)), .val (.int (1 : Int32)), .val (.int (2 : Int32)), .val (.double w1), .second] [(.int (1 : Int32)), (.ref it)]))
    refine Goes.pre (fun t kt => XS.aloadN X47.here hx rfl (hb hby d7_26) rfl rfl kt) ?_
    show Goes p e below s _ _ _ (T47.setTop (mkF m 27 #[.val (.ref a1), .val (.int (0 : Int32)), .val (.int (4 : Int32)), .val (.int (1 : Int32)), .val (.int (2 : Int32)), .val (.double w1), .second] [(.ref a1), (.int (1 : Int32)), (.ref it)]))
    obtain ⟨T48, X48, e48, st48⟩ := getF X47 hx hZ hown (host := "") (Or.inl (hw _ (List.mem_of_getElem? (i := 23) rfl))) Via.refl e47 fc44 (g := (mkF m 27 #[.val (.ref a1), .val (.int (0 : Int32)), .val (.int (4 : Int32)), .val (.int (1 : Int32)), .val (.int (2 : Int32)), .val (.double w1), .second] [(.ref a1), (.int (1 : Int32)), (.ref it)])) rfl rfl (hb hby d7_27)
    refine Goes.pre st48 ?_
    show Goes p e below s _ _ _ (T48.setTop (mkF m 30 #[.val (.ref a1), .val (.int (0 : Int32)), .val (.int (4 : Int32)), .val (.int (1 : Int32)), .val (.int (2 : Int32)), .val (.double w1), .second] [(.ref it), (.int (1 : Int32)), (.ref it)]))
    refine Goes.pre (fun t kt => XS.iload X48.here hx rfl (hb hby d7_30) rfl kt) ?_
    show Goes p e below s _ _ _ (T48.setTop (mkF m 32 #[.val (.ref a1), .val (.int (0 : Int32)), .val (.int (4 : Int32)), .val (.int (1 : Int32)), .val (.int (2 : Int32)), .val (.double w1), .second] [(.int (2 : Int32)), (.ref it), (.int (1 : Int32)), (.ref it)]))
    obtain ⟨cl49, Ar49, aq49, aS49, aN49, aH49, aG49⟩ := V46
    have V49 : Arv Z h43 it kd .double (4 : Int32) [(.double w3), (.double w1), (.double w2), (.double w0)] (.double (0 : UInt64)) := ⟨cl49, Ar49, aq49, aS49, aN49, aH49, aG49⟩
    have hin49 : ¬ ((2 : Int32) < 0 ∨ cl49.slots.size ≤ ((2 : Int32)).toNatClampNeg) := inb_of aS49 ⟨by decide, by decide⟩
    have hat49 : cl49.slots[((2 : Int32)).toNatClampNeg]? = some (.double w2) := aH49.at hin49 rfl
    refine Goes.pre (X48.daload hx (j := (2 : Int32)) (v := (.double w2)) (by rw [e48]; exact Ar49.1) (State.isArrayOf_alike hZ.alike Ar49.2.1) Ar49.2.2 hin49 hat49 (g := (mkF m 32 #[.val (.ref a1), .val (.int (0 : Int32)), .val (.int (4 : Int32)), .val (.int (1 : Int32)), .val (.int (2 : Int32)), .val (.double w1), .second] [(.int (2 : Int32)), (.ref it), (.int (1 : Int32)), (.ref it)])) rfl rfl (hb hby d7_32)) ?_
    show Goes p e below s _ _ _ (T48.setTop (mkF m 33 #[.val (.ref a1), .val (.int (0 : Int32)), .val (.int (4 : Int32)), .val (.int (1 : Int32)), .val (.int (2 : Int32)), .val (.double w1), .second] [(.double w2), (.int (1 : Int32)), (.ref it)]))
    obtain ⟨cl50, Ar50, aq50, aS50, aN50, aH50, aG50⟩ := V49
    have hin50 : ¬ ((1 : Int32) < 0 ∨ cl50.slots.size ≤ ((1 : Int32)).toNatClampNeg) := inb_of aS50 ⟨by decide, by decide⟩
    obtain ⟨T50, h50, X50, e50, W50, st50⟩ := stD X48 hx hZ e48 Ar50 (j := (1 : Int32)) hin50 (g := (mkF m 33 #[.val (.ref a1), .val (.int (0 : Int32)), .val (.int (4 : Int32)), .val (.int (1 : Int32)), .val (.int (2 : Int32)), .val (.double w1), .second] [(.double w2), (.int (1 : Int32)), (.ref it)])) rfl rfl (hb hby d7_33)
    refine Goes.pre st50 ?_
    have Z50 : n0 ≤ h50.size := Nat.le_trans Z43 (Keep.of_wr W50).1
    have N50 := Fr.snoc X50 N43 pf_G_it
    have K50 := K43.wr W50 (Or.inl (List.mem_of_getElem? (i := 0) rfl))
    have V50 : Arv Z h50 it kd .double (4 : Int32) [(.double w3), (.double w2), (.double w2), (.double w0)] (.double (0 : UInt64)) := Arv.set Ar50 aq50 aS50 aN50 aH50 aG50 rfl W50 1 rfl (Nat.le_of_ble_eq_true rfl)
    show Goes p e below s _ _ _ (T50.setTop (mkF m 34 #[.val (.ref a1), .val (.int (0 : Int32)), .val (.int (4 : Int32)), .val (.int (1 : Int32)), .val (.int (2 : Int32)), .val (.double w1), .second] []))
    refine Goes.pre (fun t kt => XS.aloadN X50.here hx rfl (hb hby d7_34) rfl rfl kt) ?_
    show Goes p e below s _ _ _ (T50.setTop (mkF m 35 #[.val (.ref a1), .val (.int (0 : Int32)), .val (.int (4 : Int32)), .val (.int (1 : Int32)), .val (.int (2 : Int32)), .val (.double w1), .second] [(.ref a1)]))
    have fc51 : Fld Z h50 a1 "com/example/quantail/quantail/NumberArray" "items" "[D" (.ref it) := (fc44.other W50 (Or.inl pf_NE_a1_it))
    obtain ⟨T52, X52, e52, st52⟩ := getF X50 hx hZ hown (host := "") (Or.inl (hw _ (List.mem_of_getElem? (i := 23) rfl))) Via.refl e50 fc51 (g := (mkF m 35 #[.val (.ref a1), .val (.int (0 : Int32)), .val (.int (4 : Int32)), .val (.int (1 : Int32)), .val (.int (2 : Int32)), .val (.double w1), .second] [(.ref a1)])) rfl rfl (hb hby d7_35)
    refine Goes.pre st52 ?_
    show Goes p e below s _ _ _ (T52.setTop (mkF m 38 #[.val (.ref a1), .val (.int (0 : Int32)), .val (.int (4 : Int32)), .val (.int (1 : Int32)), .val (.int (2 : Int32)), .val (.double w1), .second] [(.ref it)]))
    refine Goes.pre (fun t kt => XS.iload X52.here hx rfl (hb hby d7_38) rfl kt) ?_
    show Goes p e below s _ _ _ (T52.setTop (mkF m 40 #[.val (.ref a1), .val (.int (0 : Int32)), .val (.int (4 : Int32)), .val (.int (1 : Int32)), .val (.int (2 : Int32)), .val (.double w1), .second] [(.int (2 : Int32)), (.ref it)]))
    refine Goes.pre (fun t kt => XS.dload X52.here hx rfl (hb hby d7_40) rfl kt) ?_
    show Goes p e below s _ _ _ (T52.setTop (mkF m 42 #[.val (.ref a1), .val (.int (0 : Int32)), .val (.int (4 : Int32)), .val (.int (1 : Int32)), .val (.int (2 : Int32)), .val (.double w1), .second] [(.double w1), (.int (2 : Int32)), (.ref it)]))
    obtain ⟨cl53, Ar53, aq53, aS53, aN53, aH53, aG53⟩ := V50
    have hin53 : ¬ ((2 : Int32) < 0 ∨ cl53.slots.size ≤ ((2 : Int32)).toNatClampNeg) := inb_of aS53 ⟨by decide, by decide⟩
    obtain ⟨T53, h53, X53, e53, W53, st53⟩ := stD X52 hx hZ e52 Ar53 (j := (2 : Int32)) hin53 (g := (mkF m 42 #[.val (.ref a1), .val (.int (0 : Int32)), .val (.int (4 : Int32)), .val (.int (1 : Int32)), .val (.int (2 : Int32)), .val (.double w1), .second] [(.double w1), (.int (2 : Int32)), (.ref it)])) rfl rfl (hb hby d7_42)
    refine Goes.pre st53 ?_
    have Z53 : n0 ≤ h53.size := Nat.le_trans Z50 (Keep.of_wr W53).1
    have N53 := Fr.snoc X53 N50 pf_G_it
    have K53 := K50.wr W53 (Or.inl (List.mem_of_getElem? (i := 0) rfl))
    have V53 : Arv Z h53 it kd .double (4 : Int32) [(.double w3), (.double w2), (.double w1), (.double w0)] (.double (0 : UInt64)) := Arv.set Ar53 aq53 aS53 aN53 aH53 aG53 rfl W53 2 rfl (Nat.le_of_ble_eq_true rfl)
    show Goes p e below s _ _ _ (T53.setTop (mkF m 43 #[.val (.ref a1), .val (.int (0 : Int32)), .val (.int (4 : Int32)), .val (.int (1 : Int32)), .val (.int (2 : Int32)), .val (.double w1), .second] []))
    refine Goes.pre (fun t kt => XS.iinc X53.here hx rfl (hb hby d7_43) rfl (l' := #[.val (.ref a1), .val (.int (0 : Int32)), .val (.int (4 : Int32)), .val (.int (2 : Int32)), .val (.int (2 : Int32)), .val (.double w1), .second]) rfl kt) ?_
    show Goes p e below s _ _ _ (T53.setTop (mkF m 46 #[.val (.ref a1), .val (.int (0 : Int32)), .val (.int (4 : Int32)), .val (.int (2 : Int32)), .val (.int (2 : Int32)), .val (.double w1), .second] []))
    refine Goes.pre (fun t kt => XS.iinc X53.here hx rfl (hb hby d7_46) rfl (l' := #[.val (.ref a1), .val (.int (0 : Int32)), .val (.int (4 : Int32)), .val (.int (2 : Int32)), .val (.int (1 : Int32)), .val (.double w1), .second]) rfl kt) ?_
    show Goes p e below s _ _ _ (T53.setTop (mkF m 49 #[.val (.ref a1), .val (.int (0 : Int32)), .val (.int (4 : Int32)), .val (.int (2 : Int32)), .val (.int (1 : Int32)), .val (.double w1), .second] []))
    refine Goes.pre (fun t kt => XS.goto X53.here hx rfl (pc0 := 49) (pc' := 7) rfl (hb hby d7_49) (by decide) (by decide) kt) ?_
    show Goes p e below s _ _ _ (T53.setTop (mkF m 7 #[.val (.ref a1), .val (.int (0 : Int32)), .val (.int (4 : Int32)), .val (.int (2 : Int32)), .val (.int (1 : Int32)), .val (.double w1), .second] []))
    refine Goes.pre (fun t kt => XS.iloadN X53.here hx rfl (hb hby d7_7) rfl kt) ?_
    show Goes p e below s _ _ _ (T53.setTop (mkF m 8 #[.val (.ref a1), .val (.int (0 : Int32)), .val (.int (4 : Int32)), .val (.int (2 : Int32)), .val (.int (1 : Int32)), .val (.double w1), .second] [(.int (2 : Int32))]))
    refine Goes.pre (fun t kt => XS.iload X53.here hx rfl (hb hby d7_8) rfl kt) ?_
    show Goes p e below s _ _ _ (T53.setTop (mkF m 10 #[.val (.ref a1), .val (.int (0 : Int32)), .val (.int (4 : Int32)), .val (.int (2 : Int32)), .val (.int (1 : Int32)), .val (.double w1), .second] [(.int (1 : Int32)), (.int (2 : Int32))]))
    refine Goes.pre (fun t kt => XS.icmpYes X53.here hx rfl (pc0 := 10) (pc' := 52) rfl (hb hby d7_10) rfl (Jvm.Free.XT.ii_ge_t ((by decide))) (by decide) (by decide) kt) ?_
    show Goes p e below s _ _ _ (T53.setTop (mkF m 52 #[.val (.ref a1), .val (.int (0 : Int32)), .val (.int (4 : Int32)), .val (.int (2 : Int32)), .val (.int (1 : Int32)), .val (.double w1), .second] []))
    have qe54 : own_e (0 : Int32) (4 : Int32) (0 : Int32) w0 w1 w2 w3 = w3 := by simp [own_e, own_pick]
    have qe55 : own_e (0 : Int32) (4 : Int32) (1 : Int32) w0 w1 w2 w3 = w2 := by simp [own_e, own_pick]
    have qe56 : own_e (0 : Int32) (4 : Int32) (2 : Int32) w0 w1 w2 w3 = w1 := by simp [own_e, own_pick]
    have qe57 : own_e (0 : Int32) (4 : Int32) (3 : Int32) w0 w1 w2 w3 = w0 := by simp [own_e, own_pick]
    refine Goes.ret X53 none (fun _ => rfl) (BodyLoose.notSynchronized Bd) (by decide) (by decide) (fun fs hr => X53.returnOut hx Bd.returns (hb hby d7_52) hr) ?_
    show Q_rm7 Z a1 (0 : Int32) (4 : Int32) it kd w0 w1 w2 w3 h0 n0 _ T53.heap _
    rw [e53]
    exact ⟨rfl, N53, K53, (by rw [qe54, qe55, qe56, qe57]; exact V53)⟩
  · show Goes p e below s _ _ _ (s₁.setTop (mkF m 0 #[.val (.ref a1), .val (.int (1 : Int32)), .val (.int (1 : Int32)), .unset, .unset, .unset, .unset] []))
    refine Goes.pre (fun t kt => XS.iloadN X0.here hx rfl (hb hby d7_0) rfl kt) ?_
    show Goes p e below s _ _ _ (s₁.setTop (mkF m 1 #[.val (.ref a1), .val (.int (1 : Int32)), .val (.int (1 : Int32)), .unset, .unset, .unset, .unset] [(.int (1 : Int32))]))
    refine Goes.pre (fun t kt => XS.istoreN X0.here hx rfl (hb hby d7_1) rfl (l' := #[.val (.ref a1), .val (.int (1 : Int32)), .val (.int (1 : Int32)), .val (.int (1 : Int32)), .unset, .unset, .unset]) rfl kt) ?_
    show Goes p e below s _ _ _ (s₁.setTop (mkF m 2 #[.val (.ref a1), .val (.int (1 : Int32)), .val (.int (1 : Int32)), .val (.int (1 : Int32)), .unset, .unset, .unset] []))
    refine Goes.pre (fun t kt => XS.iloadN X0.here hx rfl (hb hby d7_2) rfl kt) ?_
    show Goes p e below s _ _ _ (s₁.setTop (mkF m 3 #[.val (.ref a1), .val (.int (1 : Int32)), .val (.int (1 : Int32)), .val (.int (1 : Int32)), .unset, .unset, .unset] [(.int (1 : Int32))]))
    refine Goes.pre (fun t kt => XS.iconst X0.here hx rfl (hb hby d7_3) kt) ?_
    show Goes p e below s _ _ _ (s₁.setTop (mkF m 4 #[.val (.ref a1), .val (.int (1 : Int32)), .val (.int (1 : Int32)), .val (.int (1 : Int32)), .unset, .unset, .unset] [(.int (1 : Int32)), (.int (1 : Int32))]))
    refine Goes.pre (fun t kt => XS.isub X0.here hx rfl (hb hby d7_4) rfl kt) ?_
    show Goes p e below s _ _ _ (s₁.setTop (mkF m 5 #[.val (.ref a1), .val (.int (1 : Int32)), .val (.int (1 : Int32)), .val (.int (1 : Int32)), .unset, .unset, .unset] [(.int (0 : Int32))]))
    refine Goes.pre (fun t kt => XS.istore X0.here hx rfl (hb hby d7_5) rfl (l' := #[.val (.ref a1), .val (.int (1 : Int32)), .val (.int (1 : Int32)), .val (.int (1 : Int32)), .val (.int (0 : Int32)), .unset, .unset]) rfl kt) ?_
    show Goes p e below s _ _ _ (s₁.setTop (mkF m 7 #[.val (.ref a1), .val (.int (1 : Int32)), .val (.int (1 : Int32)), .val (.int (1 : Int32)), .val (.int (0 : Int32)), .unset, .unset] []))
    refine Goes.pre (fun t kt => XS.iloadN X0.here hx rfl (hb hby d7_7) rfl kt) ?_
    show Goes p e below s _ _ _ (s₁.setTop (mkF m 8 #[.val (.ref a1), .val (.int (1 : Int32)), .val (.int (1 : Int32)), .val (.int (1 : Int32)), .val (.int (0 : Int32)), .unset, .unset] [(.int (1 : Int32))]))
    refine Goes.pre (fun t kt => XS.iload X0.here hx rfl (hb hby d7_8) rfl kt) ?_
    show Goes p e below s _ _ _ (s₁.setTop (mkF m 10 #[.val (.ref a1), .val (.int (1 : Int32)), .val (.int (1 : Int32)), .val (.int (1 : Int32)), .val (.int (0 : Int32)), .unset, .unset] [(.int (0 : Int32)), (.int (1 : Int32))]))
    refine Goes.pre (fun t kt => XS.icmpYes X0.here hx rfl (pc0 := 10) (pc' := 52) rfl (hb hby d7_10) rfl (Jvm.Free.XT.ii_ge_t ((by decide))) (by decide) (by decide) kt) ?_
    show Goes p e below s _ _ _ (s₁.setTop (mkF m 52 #[.val (.ref a1), .val (.int (1 : Int32)), .val (.int (1 : Int32)), .val (.int (1 : Int32)), .val (.int (0 : Int32)), .unset, .unset] []))
    have qe58 : own_e (1 : Int32) (1 : Int32) (0 : Int32) w0 w1 w2 w3 = w0 := by simp [own_e, own_pick]
    have qe59 : own_e (1 : Int32) (1 : Int32) (1 : Int32) w0 w1 w2 w3 = w1 := by simp [own_e, own_pick]
    have qe60 : own_e (1 : Int32) (1 : Int32) (2 : Int32) w0 w1 w2 w3 = w2 := by simp [own_e, own_pick]
    have qe61 : own_e (1 : Int32) (1 : Int32) (3 : Int32) w0 w1 w2 w3 = w3 := by simp [own_e, own_pick]
    refine Goes.ret X0 none (fun _ => rfl) (BodyLoose.notSynchronized Bd) (by decide) (by decide) (fun fs hr => X0.returnOut hx Bd.returns (hb hby d7_52) hr) ?_
    show Q_rm7 Z a1 (1 : Int32) (1 : Int32) it kd w0 w1 w2 w3 h0 n0 _ s₁.heap _
    rw [e0]
    exact ⟨rfl, N0, K0, (by rw [qe58, qe59, qe60, qe61]; exact pf_V_it)⟩
  · show Goes p e below s _ _ _ (s₁.setTop (mkF m 0 #[.val (.ref a1), .val (.int (1 : Int32)), .val (.int (2 : Int32)), .unset, .unset, .unset, .unset] []))
    refine Goes.pre (fun t kt => XS.iloadN X0.here hx rfl (hb hby d7_0) rfl kt) ?_
    show Goes p e below s _ _ _ (s₁.setTop (mkF m 1 #[.val (.ref a1), .val (.int (1 : Int32)), .val (.int (2 : Int32)), .unset, .unset, .unset, .unset] [(.int (1 : Int32))]))
    refine Goes.pre (fun t kt => XS.istoreN X0.here hx rfl (hb hby d7_1) rfl (l' := #[.val (.ref a1), .val (.int (1 : Int32)), .val (.int (2 : Int32)), .val (.int (1 : Int32)), .unset, .unset, .unset]) rfl kt) ?_
    show Goes p e below s _ _ _ (s₁.setTop (mkF m 2 #[.val (.ref a1), .val (.int (1 : Int32)), .val (.int (2 : Int32)), .val (.int (1 : Int32)), .unset, .unset, .unset] []))
    refine Goes.pre (fun t kt => XS.iloadN X0.here hx rfl (hb hby d7_2) rfl kt) ?_
    show Goes p e below s _ _ _ (s₁.setTop (mkF m 3 #[.val (.ref a1), .val (.int (1 : Int32)), .val (.int (2 : Int32)), .val (.int (1 : Int32)), .unset, .unset, .unset] [(.int (2 : Int32))]))
    refine Goes.pre (fun t kt => XS.iconst X0.here hx rfl (hb hby d7_3) kt) ?_
    show Goes p e below s _ _ _ (s₁.setTop (mkF m 4 #[.val (.ref a1), .val (.int (1 : Int32)), .val (.int (2 : Int32)), .val (.int (1 : Int32)), .unset, .unset, .unset] [(.int (1 : Int32)), (.int (2 : Int32))]))
    refine Goes.pre (fun t kt => XS.isub X0.here hx rfl (hb hby d7_4) rfl kt) ?_
    show Goes p e below s _ _ _ (s₁.setTop (mkF m 5 #[.val (.ref a1), .val (.int (1 : Int32)), .val (.int (2 : Int32)), .val (.int (1 : Int32)), .unset, .unset, .unset] [(.int (1 : Int32))]))
    refine Goes.pre (fun t kt => XS.istore X0.here hx rfl (hb hby d7_5) rfl (l' := #[.val (.ref a1), .val (.int (1 : Int32)), .val (.int (2 : Int32)), .val (.int (1 : Int32)), .val (.int (1 : Int32)), .unset, .unset]) rfl kt) ?_
    show Goes p e below s _ _ _ (s₁.setTop (mkF m 7 #[.val (.ref a1), .val (.int (1 : Int32)), .val (.int (2 : Int32)), .val (.int (1 : Int32)), .val (.int (1 : Int32)), .unset, .unset] []))
    refine Goes.pre (fun t kt => XS.iloadN X0.here hx rfl (hb hby d7_7) rfl kt) ?_
    show Goes p e below s _ _ _ (s₁.setTop (mkF m 8 #[.val (.ref a1), .val (.int (1 : Int32)), .val (.int (2 : Int32)), .val (.int (1 : Int32)), .val (.int (1 : Int32)), .unset, .unset] [(.int (1 : Int32))]))
    refine Goes.pre (fun t kt => XS.iload X0.here hx rfl (hb hby d7_8) rfl kt) ?_
    show Goes p e below s _ _ _ (s₁.setTop (mkF m 10 #[.val (.ref a1), .val (.int (1 : Int32)), .val (.int (2 : Int32)), .val (.int (1 : Int32)), .val (.int (1 : Int32)), .unset, .unset] [(.int (1 : Int32)), (.int (1 : Int32))]))
    refine Goes.pre (fun t kt => XS.icmpYes X0.here hx rfl (pc0 := 10) (pc' := 52) rfl (hb hby d7_10) rfl (Jvm.Free.XT.ii_ge_t ((by decide))) (by decide) (by decide) kt) ?_
    show Goes p e below s _ _ _ (s₁.setTop (mkF m 52 #[.val (.ref a1), .val (.int (1 : Int32)), .val (.int (2 : Int32)), .val (.int (1 : Int32)), .val (.int (1 : Int32)), .unset, .unset] []))
    have qe62 : own_e (1 : Int32) (2 : Int32) (0 : Int32) w0 w1 w2 w3 = w0 := by simp [own_e, own_pick]
    have qe63 : own_e (1 : Int32) (2 : Int32) (1 : Int32) w0 w1 w2 w3 = w1 := by simp [own_e, own_pick]
    have qe64 : own_e (1 : Int32) (2 : Int32) (2 : Int32) w0 w1 w2 w3 = w2 := by simp [own_e, own_pick]
    have qe65 : own_e (1 : Int32) (2 : Int32) (3 : Int32) w0 w1 w2 w3 = w3 := by simp [own_e, own_pick]
    refine Goes.ret X0 none (fun _ => rfl) (BodyLoose.notSynchronized Bd) (by decide) (by decide) (fun fs hr => X0.returnOut hx Bd.returns (hb hby d7_52) hr) ?_
    show Q_rm7 Z a1 (1 : Int32) (2 : Int32) it kd w0 w1 w2 w3 h0 n0 _ s₁.heap _
    rw [e0]
    exact ⟨rfl, N0, K0, (by rw [qe62, qe63, qe64, qe65]; exact pf_V_it)⟩
  · show Goes p e below s _ _ _ (s₁.setTop (mkF m 0 #[.val (.ref a1), .val (.int (1 : Int32)), .val (.int (3 : Int32)), .unset, .unset, .unset, .unset] []))
    refine Goes.pre (fun t kt => XS.iloadN X0.here hx rfl (hb hby d7_0) rfl kt) ?_
    show Goes p e below s _ _ _ (s₁.setTop (mkF m 1 #[.val (.ref a1), .val (.int (1 : Int32)), .val (.int (3 : Int32)), .unset, .unset, .unset, .unset] [(.int (1 : Int32))]))
    refine Goes.pre (fun t kt => XS.istoreN X0.here hx rfl (hb hby d7_1) rfl (l' := #[.val (.ref a1), .val (.int (1 : Int32)), .val (.int (3 : Int32)), .val (.int (1 : Int32)), .unset, .unset, .unset]) rfl kt) ?_
    show Goes p e below s _ _ _ (s₁.setTop (mkF m 2 #[.val (.ref a1), .val (.int (1 : Int32)), .val (.int (3 : Int32)), .val (.int (1 : Int32)), .unset, .unset, .unset] []))
    refine Goes.pre (fun t kt => XS.iloadN X0.here hx rfl (hb hby d7_2) rfl kt) ?_
    show Goes p e below s _ _ _ (s₁.setTop (mkF m 3 #[.val (.ref a1), .val (.int (1 : Int32)), .val (.int (3 : Int32)), .val (.int (1 : Int32)), .unset, .unset, .unset] [(.int (3 : Int32))]))
    refine Goes.pre (fun t kt => XS.iconst X0.here hx rfl (hb hby d7_3) kt) ?_
    show Goes p e below s _ _ _ (s₁.setTop (mkF m 4 #[.val (.ref a1), .val (.int (1 : Int32)), .val (.int (3 : Int32)), .val (.int (1 : Int32)), .unset, .unset, .unset] [(.int (1 : Int32)), (.int (3 : Int32))]))
    refine Goes.pre (fun t kt => XS.isub X0.here hx rfl (hb hby d7_4) rfl kt) ?_
    show Goes p e below s _ _ _ (s₁.setTop (mkF m 5 #[.val (.ref a1), .val (.int (1 : Int32)), .val (.int (3 : Int32)), .val (.int (1 : Int32)), .unset, .unset, .unset] [(.int (2 : Int32))]))
    refine Goes.pre (fun t kt => XS.istore X0.here hx rfl (hb hby d7_5) rfl (l' := #[.val (.ref a1), .val (.int (1 : Int32)), .val (.int (3 : Int32)), .val (.int (1 : Int32)), .val (.int (2 : Int32)), .unset, .unset]) rfl kt) ?_
    show Goes p e below s _ _ _ (s₁.setTop (mkF m 7 #[.val (.ref a1), .val (.int (1 : Int32)), .val (.int (3 : Int32)), .val (.int (1 : Int32)), .val (.int (2 : Int32)), .unset, .unset] []))
    refine Goes.pre (fun t kt => XS.iloadN X0.here hx rfl (hb hby d7_7) rfl kt) ?_
    show Goes p e below s _ _ _ (s₁.setTop (mkF m 8 #[.val (.ref a1), .val (.int (1 : Int32)), .val (.int (3 : Int32)), .val (.int (1 : Int32)), .val (.int (2 : Int32)), .unset, .unset] [(.int (1 : Int32))]))
    refine Goes.pre (fun t kt => XS.iload X0.here hx rfl (hb hby d7_8) rfl kt) ?_
    show Goes p e below s _ _ _ (s₁.setTop (mkF m 10 #[.val (.ref a1), .val (.int (1 : Int32)), .val (.int (3 : Int32)), .val (.int (1 : Int32)), .val (.int (2 : Int32)), .unset, .unset] [(.int (2 : Int32)), (.int (1 : Int32))]))
    refine Goes.pre (fun t kt => XS.icmpNo X0.here hx rfl (hb hby d7_10) rfl (Jvm.Free.XT.ii_ge_f ((by decide))) kt) ?_
    show Goes p e below s _ _ _ (s₁.setTop (mkF m 13 #[.val (.ref a1), .val (.int (1 : Int32)), .val (.int (3 : Int32)), .val (.int (1 : Int32)), .val (.int (2 : Int32)), .unset, .unset] []))
    refine Goes.pre (fun t kt => XS.aloadN X0.here hx rfl (hb hby d7_13) rfl rfl kt) ?_
    show Goes p e below s _ _ _ (s₁.setTop (mkF m 14 #[.val (.ref a1), .val (.int (1 : Int32)), .val (.int (3 : Int32)), .val (.int (1 : Int32)), .val (.int (2 : Int32)), .unset, .unset] [(.ref a1)]))
    obtain ⟨T66, X66, e66, st66⟩ := getF X0 hx hZ hown (host := "") (Or.inl (hw _ (List.mem_of_getElem? (i := 23) rfl))) Via.refl e0 pf_F_a1_com_example_quantail_quantail_NumberArray_items (g := (mkF m 14 #[.val (.ref a1), .val (.int (1 : Int32)), .val (.int (3 : Int32)), .val (.int (1 : Int32)), .val (.int (2 : Int32)), .unset, .unset] [(.ref a1)])) rfl rfl (hb hby d7_14)
    refine Goes.pre st66 ?_
    show Goes p e below s _ _ _ (T66.setTop (mkF m 17 #[.val (.ref a1), .val (.int (1 : Int32)), .val (.int (3 : Int32)), .val (.int (1 : Int32)), .val (.int (2 : Int32)), .unset, .unset] [(.ref it)]))
    refine Goes.pre (fun t kt => XS.iloadN X66.here hx rfl (hb hby d7_17) rfl kt) ?_
    show Goes p e below s _ _ _ (T66.setTop (mkF m 18 #[.val (.ref a1), .val (.int (1 : Int32)), .val (.int (3 : Int32)), .val (.int (1 : Int32)), .val (.int (2 : Int32)), .unset, .unset] [(.int (1 : Int32)), (.ref it)]))
    obtain ⟨cl67, Ar67, aq67, aS67, aN67, aH67, aG67⟩ := pf_V_it
    have V67 : Arv Z h0 it kd .double (4 : Int32) [(.double w0), (.double w1), (.double w2), (.double w3)] (.double (0 : UInt64)) := ⟨cl67, Ar67, aq67, aS67, aN67, aH67, aG67⟩
    have hin67 : ¬ ((1 : Int32) < 0 ∨ cl67.slots.size ≤ ((1 : Int32)).toNatClampNeg) := inb_of aS67 ⟨by decide, by decide⟩
    have hat67 : cl67.slots[((1 : Int32)).toNatClampNeg]? = some (.double w1) := aH67.at hin67 rfl
    refine Goes.pre (X66.daload hx (j := (1 : Int32)) (v := (.double w1)) (by rw [e66]; exact Ar67.1) (State.isArrayOf_alike hZ.alike Ar67.2.1) Ar67.2.2 hin67 hat67 (g := (mkF m 18 #[.val (.ref a1), .val (.int (1 : Int32)), .val (.int (3 : Int32)), .val (.int (1 : Int32)), .val (.int (2 : Int32)), .unset, .unset] [(.int (1 : Int32)), (.ref it)])) rfl rfl (hb hby d7_18)) ?_
    show Goes p e below s _ _ _ (T66.setTop (mkF m 19 #[.val (.ref a1), .val (.int (1 : Int32)), .val (.int (3 : Int32)), .val (.int (1 : Int32)), .val (.int (2 : Int32)), .unset, .unset] [(.double w1)]))
    refine Goes.pre (fun t kt => XS.dstore X66.here hx rfl (hb hby d7_19) rfl (l' := #[.val (.ref a1), .val (.int (1 : Int32)), .val (.int (3 : Int32)), .val (.int (1 : Int32)), .val (.int (2 : Int32)), .val (.double w1), .second]) rfl kt) ?_
    show Goes p e below s _ _ _ (T66.setTop (mkF m 21 #[.val (.ref a1), .val (.int (1 : Int32)), .val (.int (3 : Int32)), .val (.int (1 : Int32)), .val (.int (2 : Int32)), .val (.double w1), .second] []))
    refine Goes.pre (fun t kt => XS.aloadN X66.here hx rfl (hb hby d7_21) rfl rfl kt) ?_
    show Goes p e below s _ _ _ (T66.setTop (mkF m 22 #[.val (.ref a1), .val (.int (1 : Int32)), .val (.int (3 : Int32)), .val (.int (1 : Int32)), .val (.int (2 : Int32)), .val (.double w1), .second] [(.ref a1)]))
    obtain ⟨T68, X68, e68, st68⟩ := getF X66 hx hZ hown (host := "") (Or.inl (hw _ (List.mem_of_getElem? (i := 23) rfl))) Via.refl e66 pf_F_a1_com_example_quantail_quantail_NumberArray_items (g := (mkF m 22 #[.val (.ref a1), .val (.int (1 : Int32)), .val (.int (3 : Int32)), .val (.int (1 : Int32)), .val (.int (2 : Int32)), .val (.double w1), .second] [(.ref a1)])) rfl rfl (hb hby d7_22)
    refine Goes.pre st68 ?_
    show Goes p e below s _ _ _ (T68.setTop (mkF m 25 #[.val (.ref a1), .val (.int (1 : Int32)), .val (.int (3 : Int32)), .val (.int (1 : Int32)), .val (.int (2 : Int32)), .val (.double w1), .second] [(.ref it)]))
    refine Goes.pre (fun t kt => XS.iloadN X68.here hx rfl (hb hby d7_25) rfl kt) ?_
    show Goes p e below s _ _ _ (T68.setTop (mkF m 26 #[.val (.ref a1), .val (.int (1 : Int32)), .val (.int (3 : Int32)), .val (.int (1 : Int32)), .val (.int (2 : Int32)), .val (.double w1), .second] [(.int (1 : Int32)), (.ref it)]))
    refine Goes.pre (fun t kt => XS.aloadN X68.here hx rfl (hb hby d7_26) rfl rfl kt) ?_
    show Goes p e below s _ _ _ (T68.setTop (mkF m 27 #[.val (.ref a1), .val (.int (1 : Int32)), .val (.int (3 : Int32)), .val (.int (1 : Int32)), .val (.int (2 : Int32)), .val (.double w1), .second] [(.ref a1), (.int (1 : Int32)), (.ref it)]))
    obtain ⟨T69, X69, e69, st69⟩ := getF X68 hx hZ hown (host := "") (Or.inl (hw _ (List.mem_of_getElem? (i := 23) rfl))) Via.refl e68 pf_F_a1_com_example_quantail_quantail_NumberArray_items (g := (mkF m 27 #[.val (.ref a1), .val (.int (1 : Int32)), .val (.int (3 : Int32)), .val (.int (1 : Int32)), .val (.int (2 : Int32)), .val (.double w1), .second] [(.ref a1), (.int (1 : Int32)), (.ref it)])) rfl rfl (hb hby d7_27)
    refine Goes.pre st69 ?_
    show Goes p e below s _ _ _ (T69.setTop (mkF m 30 #[.val (.ref a1), .val (.int (1 : Int32)), .val (.int (3 : Int32)), .val (.int (1 : Int32)), .val (.int (2 : Int32)), .val (.double w1), .second] [(.ref it), (.int (1 : Int32)), (.ref it)]))
    refine Goes.pre (fun t kt => XS.iload X69.here hx rfl (hb hby d7_30) rfl kt) ?_
    show Goes p e below s _ _ _ (T69.setTop (mkF m 32 #[.val (.ref a1), .val (.int (1 : Int32)), .val (.int (3 : Int32)), .val (.int (1 : Int32)), .val (.int (2 : Int32)), .val (.double w1), .second] [(.int (2 : Int32)), (.ref it), (.int (1 : Int32)), (.ref it)]))
    obtain ⟨cl70, Ar70, aq70, aS70, aN70, aH70, aG70⟩ := V67
    have V70 : Arv Z h0 it kd .double (4 : Int32) [(.double w0), (.double w1), (.double w2), (.double w3)] (.double (0 : UInt64)) := ⟨cl70, Ar70, aq70, aS70, aN70, aH70, aG70⟩
    have hin70 : ¬ ((2 : Int32) < 0 ∨ cl70.slots.size ≤ ((2 : Int32)).toNatClampNeg) := inb_of aS70 ⟨by decide, by decide⟩
    have hat70 : cl70.slots[((2 : Int32)).toNatClampNeg]? = some (.double w2) := aH70.at hin70 rfl
    refine Goes.pre (X69.daload hx (j := (2 : Int32)) (v := (.double w2)) (by rw [e69]; exact Ar70.1) (State.isArrayOf_alike hZ.alike Ar70.2.1) Ar70.2.2 hin70 hat70 (g := (mkF m 32 #[.val (.ref a1), .val (.int (1 : Int32)), .val (.int (3 : Int32)), .val (.int (1 : Int32)), .val (.int (2 : Int32)), .val (.double w1), .second] [(.int (2 : Int32)), (.ref it), (.int (1 : Int32)), (.ref it)])) rfl rfl (hb hby d7_32)) ?_
    show Goes p e below s _ _ _ (T69.setTop (mkF m 33 #[.val (.ref a1), .val (.int (1 : Int32)), .val (.int (3 : Int32)), .val (.int (1 : Int32)), .val (.int (2 : Int32)), .val (.double w1), .second] [(.double w2), (.int (1 : Int32)), (.ref it)]))
    obtain ⟨cl71, Ar71, aq71, aS71, aN71, aH71, aG71⟩ := V70
    have hin71 : ¬ ((1 : Int32) < 0 ∨ cl71.slots.size ≤ ((1 : Int32)).toNatClampNeg) := inb_of aS71 ⟨by decide, by decide⟩
    obtain ⟨T71, h71, X71, e71, W71, st71⟩ := stD X69 hx hZ e69 Ar71 (j := (1 : Int32)) hin71 (g := (mkF m 33 #[.val (.ref a1), .val (.int (1 : Int32)), .val (.int (3 : Int32)), .val (.int (1 : Int32)), .val (.int (2 : Int32)), .val (.double w1), .second] [(.double w2), (.int (1 : Int32)), (.ref it)])) rfl rfl (hb hby d7_33)
    refine Goes.pre st71 ?_
    have Z71 : n0 ≤ h71.size := Nat.le_trans Z0 (Keep.of_wr W71).1
    have N71 := Fr.snoc X71 N0 pf_G_it
    have K71 := K0.wr W71 (Or.inl (List.mem_of_getElem? (i := 0) rfl))
    have V71 : Arv Z h71 it kd .double (4 : Int32) [(.double w0), (.double w2), (.double w2), (.double w3)] (.double (0 : UInt64)) := Arv.set Ar71 aq71 aS71 aN71 aH71 aG71 rfl W71 1 rfl (Nat.le_of_ble_eq_true rfl)
    show Goes p e below s _ _ _ (T71.setTop (mkF m 34 #[.val (.ref a1), .val (.int (1 : Int32)), .val (.int (3 : Int32)), .val (.int (1 : Int32)), .val (.int (2 : Int32)), .val (.double w1), .second] []))
    refine Goes.pre (fun t kt => XS.aloadN X71.here hx rfl (hb hby d7_34) rfl rfl kt) ?_
    show Goes p e below s _ _ _ (T71.setTop (mkF m 35 #[.val (.ref a1), .val (.int (1 : Int32)), .val (.int (3 : Int32)), .val (.int (1 : Int32)), .val (.int (2 : Int32)), .val (.double w1), .second] [(.ref a1)]))
    have fc72 : Fld Z h71 a1 "com/example/quantail/quantail/NumberArray" "items" "[D" (.ref it) := (pf_F_a1_com_example_quantail_quantail_NumberArray_items.other W71 (Or.inl pf_NE_a1_it))
    obtain ⟨T73, X73, e73, st73⟩ := getF X71 hx hZ hown (host := "") (Or.inl (hw _ (List.mem_of_getElem? (i := 23) rfl))) Via.refl e71 fc72 (g := (mkF m 35 #[.val (.ref a1), .val (.int (1 : Int32)), .val (.int (3 : Int32)), .val (.int (1 : Int32)), .val (.int (2 : Int32)), .val (.double w1), .second] [(.ref a1)])) rfl rfl (hb hby d7_35)
    refine Goes.pre st73 ?_
    show Goes p e below s _ _ _ (T73.setTop (mkF m 38 #[.val (.ref a1), .val (.int (1 : Int32)), .val (.int (3 : Int32)), .val (.int (1 : Int32)), .val (.int (2 : Int32)), .val (.double w1), .second] [(.ref it)]))
    refine Goes.pre (fun t kt => XS.iload X73.here hx rfl (hb hby d7_38) rfl kt) ?_
    show Goes p e below s _ _ _ (T73.setTop (mkF m 40 #[.val (.ref a1), .val (.int (1 : Int32)), .val (.int (3 : Int32)), .val (.int (1 : Int32)), .val (.int (2 : Int32)), .val (.double w1), .second] [(.int (2 : Int32)), (.ref it)]))
    refine Goes.pre (fun t kt => XS.dload X73.here hx rfl (hb hby d7_40) rfl kt) ?_
    show Goes p e below s _ _ _ (T73.setTop (mkF m 42 #[.val (.ref a1), .val (.int (1 : Int32)), .val (.int (3 : Int32)), .val (.int (1 : Int32)), .val (.int (2 : Int32)), .val (.double w1), .second] [(.double w1), (.int (2 : Int32)), (.ref it)]))
    obtain ⟨cl74, Ar74, aq74, aS74, aN74, aH74, aG74⟩ := V71
    have hin74 : ¬ ((2 : Int32) < 0 ∨ cl74.slots.size ≤ ((2 : Int32)).toNatClampNeg) := inb_of aS74 ⟨by decide, by decide⟩
    obtain ⟨T74, h74, X74, e74, W74, st74⟩ := stD X73 hx hZ e73 Ar74 (j := (2 : Int32)) hin74 (g := (mkF m 42 #[.val (.ref a1), .val (.int (1 : Int32)), .val (.int (3 : Int32)), .val (.int (1 : Int32)), .val (.int (2 : Int32)), .val (.double w1), .second] [(.double w1), (.int (2 : Int32)), (.ref it)])) rfl rfl (hb hby d7_42)
    refine Goes.pre st74 ?_
    have Z74 : n0 ≤ h74.size := Nat.le_trans Z71 (Keep.of_wr W74).1
    have N74 := Fr.snoc X74 N71 pf_G_it
    have K74 := K71.wr W74 (Or.inl (List.mem_of_getElem? (i := 0) rfl))
    have V74 : Arv Z h74 it kd .double (4 : Int32) [(.double w0), (.double w2), (.double w1), (.double w3)] (.double (0 : UInt64)) := Arv.set Ar74 aq74 aS74 aN74 aH74 aG74 rfl W74 2 rfl (Nat.le_of_ble_eq_true rfl)
    show Goes p e below s _ _ _ (T74.setTop (mkF m 43 #[.val (.ref a1), .val (.int (1 : Int32)), .val (.int (3 : Int32)), .val (.int (1 : Int32)), .val (.int (2 : Int32)), .val (.double w1), .second] []))
    refine Goes.pre (fun t kt => XS.iinc X74.here hx rfl (hb hby d7_43) rfl (l' := #[.val (.ref a1), .val (.int (1 : Int32)), .val (.int (3 : Int32)), .val (.int (2 : Int32)), .val (.int (2 : Int32)), .val (.double w1), .second]) rfl kt) ?_
    show Goes p e below s _ _ _ (T74.setTop (mkF m 46 #[.val (.ref a1), .val (.int (1 : Int32)), .val (.int (3 : Int32)), .val (.int (2 : Int32)), .val (.int (2 : Int32)), .val (.double w1), .second] []))
    refine Goes.pre (fun t kt => XS.iinc X74.here hx rfl (hb hby d7_46) rfl (l' := #[.val (.ref a1), .val (.int (1 : Int32)), .val (.int (3 : Int32)), .val (.int (2 : Int32)), .val (.int (1 : Int32)), .val (.double w1), .second]) rfl kt) ?_
    show Goes p e below s _ _ _ (T74.setTop (mkF m 49 #[.val (.ref a1), .val (.int (1 : Int32)), .val (.int (3 : Int32)), .val (.int (2 : Int32)), .val (.int (1 : Int32)), .val (.double w1), .second] []))
    refine Goes.pre (fun t kt => XS.goto X74.here hx rfl (pc0 := 49) (pc' := 7) rfl (hb hby d7_49) (by decide) (by decide) kt) ?_
    show Goes p e below s _ _ _ (T74.setTop (mkF m 7 #[.val (.ref a1), .val (.int (1 : Int32)), .val (.int (3 : Int32)), .val (.int (2 : Int32)), .val (.int (1 : Int32)), .val (.double w1), .second] []))
    refine Goes.pre (fun t kt => XS.iloadN X74.here hx rfl (hb hby d7_7) rfl kt) ?_
    show Goes p e below s _ _ _ (T74.setTop (mkF m 8 #[.val (.ref a1), .val (.int (1 : Int32)), .val (.int (3 : Int32)), .val (.int (2 : Int32)), .val (.int (1 : Int32)), .val (.double w1), .second] [(.int (2 : Int32))]))
    refine Goes.pre (fun t kt => XS.iload X74.here hx rfl (hb hby d7_8) rfl kt) ?_
    show Goes p e below s _ _ _ (T74.setTop (mkF m 10 #[.val (.ref a1), .val (.int (1 : Int32)), .val (.int (3 : Int32)), .val (.int (2 : Int32)), .val (.int (1 : Int32)), .val (.double w1), .second] [(.int (1 : Int32)), (.int (2 : Int32))]))
    refine Goes.pre (fun t kt => XS.icmpYes X74.here hx rfl (pc0 := 10) (pc' := 52) rfl (hb hby d7_10) rfl (Jvm.Free.XT.ii_ge_t ((by decide))) (by decide) (by decide) kt) ?_
    show Goes p e below s _ _ _ (T74.setTop (mkF m 52 #[.val (.ref a1), .val (.int (1 : Int32)), .val (.int (3 : Int32)), .val (.int (2 : Int32)), .val (.int (1 : Int32)), .val (.double w1), .second] []))
    have qe75 : own_e (1 : Int32) (3 : Int32) (0 : Int32) w0 w1 w2 w3 = w0 := by simp [own_e, own_pick]
    have qe76 : own_e (1 : Int32) (3 : Int32) (1 : Int32) w0 w1 w2 w3 = w2 := by simp [own_e, own_pick]
    have qe77 : own_e (1 : Int32) (3 : Int32) (2 : Int32) w0 w1 w2 w3 = w1 := by simp [own_e, own_pick]
    have qe78 : own_e (1 : Int32) (3 : Int32) (3 : Int32) w0 w1 w2 w3 = w3 := by simp [own_e, own_pick]
    refine Goes.ret X74 none (fun _ => rfl) (BodyLoose.notSynchronized Bd) (by decide) (by decide) (fun fs hr => X74.returnOut hx Bd.returns (hb hby d7_52) hr) ?_
    show Q_rm7 Z a1 (1 : Int32) (3 : Int32) it kd w0 w1 w2 w3 h0 n0 _ T74.heap _
    rw [e74]
    exact ⟨rfl, N74, K74, (by rw [qe75, qe76, qe77, qe78]; exact V74)⟩
  · show Goes p e below s _ _ _ (s₁.setTop (mkF m 0 #[.val (.ref a1), .val (.int (1 : Int32)), .val (.int (4 : Int32)), .unset, .unset, .unset, .unset] []))
    refine Goes.pre (fun t kt => XS.iloadN X0.here hx rfl (hb hby d7_0) rfl kt) ?_
    show Goes p e below s _ _ _ (s₁.setTop (mkF m 1 #[.val (.ref a1), .val (.int (1 : Int32)), .val (.int (4 : Int32)), .unset, .unset, .unset, .unset] [(.int (1 : Int32))]))
    refine Goes.pre (fun t kt => XS.istoreN X0.here hx rfl (hb hby d7_1) rfl (l' := #[.val (.ref a1), .val (.int (1 : Int32)), .val (.int (4 : Int32)), .val (.int (1 : Int32)), .unset, .unset, .unset]) rfl kt) ?_
    show Goes p e below s _ _ _ (s₁.setTop (mkF m 2 #[.val (.ref a1), .val (.int (1 : Int32)), .val (.int (4 : Int32)), .val (.int (1 : Int32)), .unset, .unset, .unset] []))
    refine Goes.pre (fun t kt => XS.iloadN X0.here hx rfl (hb hby d7_2) rfl kt) ?_
    show Goes p e below s _ _ _ (s₁.setTop (mkF m 3 #[.val (.ref a1), .val (.int (1 : Int32)), .val (.int (4 : Int32)), .val (.int (1 : Int32)), .unset, .unset, .unset] [(.int (4 : Int32))]))
    refine Goes.pre (fun t kt => XS.iconst X0.here hx rfl (hb hby d7_3) kt) ?_
    show Goes p e below s _ _ _ (s₁.setTop (mkF m 4 #[.val (.ref a1), .val (.int (1 : Int32)), .val (.int (4 : Int32)), .val (.int (1 : Int32)), .unset, .unset, .unset] [(.int (1 : Int32)), (.int (4 : Int32))]))
    refine Goes.pre (fun t kt => XS.isub X0.here hx rfl (hb hby d7_4) rfl kt) ?_
    show Goes p e below s _ _ _ (s₁.setTop (mkF m 5 #[.val (.ref a1), .val (.int (1 : Int32)), .val (.int (4 : Int32)), .val (.int (1 : Int32)), .unset, .unset, .unset] [(.int (3 : Int32))]))
    refine Goes.pre (fun t kt => XS.istore X0.here hx rfl (hb hby d7_5) rfl (l' := #[.val (.ref a1), .val (.int (1 : Int32)), .val (.int (4 : Int32)), .val (.int (1 : Int32)), .val (.int (3 : Int32)), .unset, .unset]) rfl kt) ?_
    show Goes p e below s _ _ _ (s₁.setTop (mkF m 7 #[.val (.ref a1), .val (.int (1 : Int32)), .val (.int (4 : Int32)), .val (.int (1 : Int32)), .val (.int (3 : Int32)), .unset, .unset] []))
    refine Goes.pre (fun t kt => XS.iloadN X0.here hx rfl (hb hby d7_7) rfl kt) ?_
    show Goes p e below s _ _ _ (s₁.setTop (mkF m 8 #[.val (.ref a1), .val (.int (1 : Int32)), .val (.int (4 : Int32)), .val (.int (1 : Int32)), .val (.int (3 : Int32)), .unset, .unset] [(.int (1 : Int32))]))
    refine Goes.pre (fun t kt => XS.iload X0.here hx rfl (hb hby d7_8) rfl kt) ?_
    show Goes p e below s _ _ _ (s₁.setTop (mkF m 10 #[.val (.ref a1), .val (.int (1 : Int32)), .val (.int (4 : Int32)), .val (.int (1 : Int32)), .val (.int (3 : Int32)), .unset, .unset] [(.int (3 : Int32)), (.int (1 : Int32))]))
    refine Goes.pre (fun t kt => XS.icmpNo X0.here hx rfl (hb hby d7_10) rfl (Jvm.Free.XT.ii_ge_f ((by decide))) kt) ?_
    show Goes p e below s _ _ _ (s₁.setTop (mkF m 13 #[.val (.ref a1), .val (.int (1 : Int32)), .val (.int (4 : Int32)), .val (.int (1 : Int32)), .val (.int (3 : Int32)), .unset, .unset] []))
    refine Goes.pre (fun t kt => XS.aloadN X0.here hx rfl (hb hby d7_13) rfl rfl kt) ?_
    show Goes p e below s _ _ _ (s₁.setTop (mkF m 14 #[.val (.ref a1), .val (.int (1 : Int32)), .val (.int (4 : Int32)), .val (.int (1 : Int32)), .val (.int (3 : Int32)), .unset, .unset] [(.ref a1)]))
    obtain ⟨T79, X79, e79, st79⟩ := getF X0 hx hZ hown (host := "") (Or.inl (hw _ (List.mem_of_getElem? (i := 23) rfl))) Via.refl e0 pf_F_a1_com_example_quantail_quantail_NumberArray_items (g := (mkF m 14 #[.val (.ref a1), .val (.int (1 : Int32)), .val (.int (4 : Int32)), .val (.int (1 : Int32)), .val (.int (3 : Int32)), .unset, .unset] [(.ref a1)])) rfl rfl (hb hby d7_14)
    refine Goes.pre st79 ?_
    show Goes p e below s _ _ _ (T79.setTop (mkF m 17 #[.val (.ref a1), .val (.int (1 : Int32)), .val (.int (4 : Int32)), .val (.int (1 : Int32)), .val (.int (3 : Int32)), .unset, .unset] [(.ref it)]))
    refine Goes.pre (fun t kt => XS.iloadN X79.here hx rfl (hb hby d7_17) rfl kt) ?_
    show Goes p e below s _ _ _ (T79.setTop (mkF m 18 #[.val (.ref a1), .val (.int (1 : Int32)), .val (.int (4 : Int32)), .val (.int (1 : Int32)), .val (.int (3 : Int32)), .unset, .unset] [(.int (1 : Int32)), (.ref it)]))
    obtain ⟨cl80, Ar80, aq80, aS80, aN80, aH80, aG80⟩ := pf_V_it
    have V80 : Arv Z h0 it kd .double (4 : Int32) [(.double w0), (.double w1), (.double w2), (.double w3)] (.double (0 : UInt64)) := ⟨cl80, Ar80, aq80, aS80, aN80, aH80, aG80⟩
    have hin80 : ¬ ((1 : Int32) < 0 ∨ cl80.slots.size ≤ ((1 : Int32)).toNatClampNeg) := inb_of aS80 ⟨by decide, by decide⟩
    have hat80 : cl80.slots[((1 : Int32)).toNatClampNeg]? = some (.double w1) := aH80.at hin80 rfl
    refine Goes.pre (X79.daload hx (j := (1 : Int32)) (v := (.double w1)) (by rw [e79]; exact Ar80.1) (State.isArrayOf_alike hZ.alike Ar80.2.1) Ar80.2.2 hin80 hat80 (g := (mkF m 18 #[.val (.ref a1), .val (.int (1 : Int32)), .val (.int (4 : Int32)), .val (.int (1 : Int32)), .val (.int (3 : Int32)), .unset, .unset] [(.int (1 : Int32)), (.ref it)])) rfl rfl (hb hby d7_18)) ?_
    show Goes p e below s _ _ _ (T79.setTop (mkF m 19 #[.val (.ref a1), .val (.int (1 : Int32)), .val (.int (4 : Int32)), .val (.int (1 : Int32)), .val (.int (3 : Int32)), .unset, .unset] [(.double w1)]))
    refine Goes.pre (fun t kt => XS.dstore X79.here hx rfl (hb hby d7_19) rfl (l' := #[.val (.ref a1), .val (.int (1 : Int32)), .val (.int (4 : Int32)), .val (.int (1 : Int32)), .val (.int (3 : Int32)), .val (.double w1), .second]) rfl kt) ?_
    show Goes p e below s _ _ _ (T79.setTop (mkF m 21 #[.val (.ref a1), .val (.int (1 : Int32)), .val (.int (4 : Int32)), .val (.int (1 : Int32)), .val (.int (3 : Int32)), .val (.double w1), .second] []))
    refine Goes.pre (fun t kt => XS.aloadN X79.here hx rfl (hb hby d7_21) rfl rfl kt) ?_
    show Goes p e below s _ _ _ (T79.setTop (mkF m 22 #[.val (.ref a1), .val (.int (1 : Int32)), .val (.int (4 : Int32)), .val (.int (1 : Int32)), .val (.int (3 : Int32)), .val (.double w1), .second] [(.ref a1)]))
    obtain ⟨T81, X81, e81, st81⟩ := getF X79 hx hZ hown (host := "") (Or.inl (hw _ (List.mem_of_getElem? (i := 23) rfl))) Via.refl e79 pf_F_a1_com_example_quantail_quantail_NumberArray_items (g := (mkF m 22 #[.val (.ref a1), .val (.int (1 : Int32)), .val (.int (4 : Int32)), .val (.int (1 : Int32)), .val (.int (3 : Int32)), .val (.double w1), .second] [(.ref a1)])) rfl rfl (hb hby d7_22)
    refine Goes.pre st81 ?_
    show Goes p e below s _ _ _ (T81.setTop (mkF m 25 #[.val (.ref a1), .val (.int (1 : Int32)), .val (.int (4 : Int32)), .val (.int (1 : Int32)), .val (.int (3 : Int32)), .val (.double w1), .second] [(.ref it)]))
    refine Goes.pre (fun t kt => XS.iloadN X81.here hx rfl (hb hby d7_25) rfl kt) ?_
    show Goes p e below s _ _ _ (T81.setTop (mkF m 26 #[.val (.ref a1), .val (.int (1 : Int32)), .val (.int (4 : Int32)), .val (.int (1 : Int32)), .val (.int (3 : Int32)), .val (.double w1), .second] [(.int (1 : Int32)), (.ref it)]))
    refine Goes.pre (fun t kt => XS.aloadN X81.here hx rfl (hb hby d7_26) rfl rfl kt) ?_
    show Goes p e below s _ _ _ (T81.setTop (mkF m 27 #[.val (.ref a1), .val (.int (1 : Int32)), .val (.int (4 : Int32)), .val (.int (1 : Int32)), .val (.int (3 : Int32)), .val (.double w1), .second] [(.ref a1), (.int (1 : Int32)), (.ref it)]))
    obtain ⟨T82, X82, e82, st82⟩ := getF X81 hx hZ hown (host := "") (Or.inl (hw _ (List.mem_of_getElem? (i := 23) rfl))) Via.refl e81 pf_F_a1_com_example_quantail_quantail_NumberArray_items (g := (mkF m 27 #[.val (.ref a1), .val (.int (1 : Int32)), .val (.int (4 : Int32)), .val (.int (1 : Int32)), .val (.int (3 : Int32)), .val (.double w1), .second] [(.ref a1), (.int (1 : Int32)), (.ref it)])) rfl rfl (hb hby d7_27)
    refine Goes.pre st82 ?_
    show Goes p e below s _ _ _ (T82.setTop (mkF m 30 #[.val (.ref a1), .val (.int (1 : Int32)), .val (.int (4 : Int32)), .val (.int (1 : Int32)), .val (.int (3 : Int32)), .val (.double w1), .second] [(.ref it), (.int (1 : Int32)), (.ref it)]))
    refine Goes.pre (fun t kt => XS.iload X82.here hx rfl (hb hby d7_30) rfl kt) ?_
    show Goes p e below s _ _ _ (T82.setTop (mkF m 32 #[.val (.ref a1), .val (.int (1 : Int32)), .val (.int (4 : Int32)), .val (.int (1 : Int32)), .val (.int (3 : Int32)), .val (.double w1), .second] [(.int (3 : Int32)), (.ref it), (.int (1 : Int32)), (.ref it)]))
    obtain ⟨cl83, Ar83, aq83, aS83, aN83, aH83, aG83⟩ := V80
    have V83 : Arv Z h0 it kd .double (4 : Int32) [(.double w0), (.double w1), (.double w2), (.double w3)] (.double (0 : UInt64)) := ⟨cl83, Ar83, aq83, aS83, aN83, aH83, aG83⟩
    have hin83 : ¬ ((3 : Int32) < 0 ∨ cl83.slots.size ≤ ((3 : Int32)).toNatClampNeg) := inb_of aS83 ⟨by decide, by decide⟩
    have hat83 : cl83.slots[((3 : Int32)).toNatClampNeg]? = some (.double w3) := aH83.at hin83 rfl
    refine Goes.pre (X82.daload hx (j := (3 : Int32)) (v := (.double w3)) (by rw [e82]; exact Ar83.1) (State.isArrayOf_alike hZ.alike Ar83.2.1) Ar83.2.2 hin83 hat83 (g := (mkF m 32 #[.val (.ref a1), .val (.int (1 : Int32)), .val (.int (4 : Int32)), .val (.int (1 : Int32)), .val (.int (3 : Int32)), .val (.double w1), .second] [(.int (3 : Int32)), (.ref it), (.int (1 : Int32)), (.ref it)])) rfl rfl (hb hby d7_32)) ?_
    show Goes p e below s _ _ _ (T82.setTop (mkF m 33 #[.val (.ref a1), .val (.int (1 : Int32)), .val (.int (4 : Int32)), .val (.int (1 : Int32)), .val (.int (3 : Int32)), .val (.double w1), .second] [(.double w3), (.int (1 : Int32)), (.ref it)]))
    obtain ⟨cl84, Ar84, aq84, aS84, aN84, aH84, aG84⟩ := V83
    have hin84 : ¬ ((1 : Int32) < 0 ∨ cl84.slots.size ≤ ((1 : Int32)).toNatClampNeg) := inb_of aS84 ⟨by decide, by decide⟩
    obtain ⟨T84, h84, X84, e84, W84, st84⟩ := stD X82 hx hZ e82 Ar84 (j := (1 : Int32)) hin84 (g := (mkF m 33 #[.val (.ref a1), .val (.int (1 : Int32)), .val (.int (4 : Int32)), .val (.int (1 : Int32)), .val (.int (3 : Int32)), .val (.double w1), .second] [(.double w3), (.int (1 : Int32)), (.ref it)])) rfl rfl (hb hby d7_33)
    refine Goes.pre st84 ?_
    have Z84 : n0 ≤ h84.size := Nat.le_trans Z0 (Keep.of_wr W84).1
    have N84 := Fr.snoc X84 N0 pf_G_it
    have K84 := K0.wr W84 (Or.inl (List.mem_of_getElem? (i := 0) rfl))
    have V84 : Arv Z h84 it kd .double (4 : Int32) [(.double w0), (.double w3), (.double w2), (.double w3)] (.double (0 : UInt64)) := Arv.set Ar84 aq84 aS84 aN84 aH84 aG84 rfl W84 1 rfl (Nat.le_of_ble_eq_true rfl)
    show Goes p e below s _ _ _ (T84.setTop (mkF m 34 #[.val (.ref a1), .val (.int (1 : Int32)), .val (.int (4 : Int32)), .val (.int (1 : Int32)), .val (.int (3 : Int32)), .val (.double w1), .second] []))
    refine Goes.pre (fun t kt => XS.aloadN X84.here hx rfl (hb hby d7_34) rfl rfl kt) ?_
    show Goes p e below s _ _ _ (T84.setTop (mkF m 35 #[.val (.ref a1), .val (.int (1 : Int32)), .val (.int (4 : Int32)), .val (.int (1 : Int32)), .val (.int (3 : Int32)), .val (.double w1), .second] [(.ref a1)]))
    have fc85 : Fld Z h84 a1 "com/example/quantail/quantail/NumberArray" "items" "[D" (.ref it) := (pf_F_a1_com_example_quantail_quantail_NumberArray_items.other W84 (Or.inl pf_NE_a1_it))
    obtain ⟨T86, X86, e86, st86⟩ := getF X84 hx hZ hown (host := "") (Or.inl (hw _ (List.mem_of_getElem? (i := 23) rfl))) Via.refl e84 fc85 (g := (mkF m 35 #[.val (.ref a1), .val (.int (1 : Int32)), .val (.int (4 : Int32)), .val (.int (1 : Int32)), .val (.int (3 : Int32)), .val (.double w1), .second] [(.ref a1)])) rfl rfl (hb hby d7_35)
    refine Goes.pre st86 ?_
    show Goes p e below s _ _ _ (T86.setTop (mkF m 38 #[.val (.ref a1), .val (.int (1 : Int32)), .val (.int (4 : Int32)), .val (.int (1 : Int32)), .val (.int (3 : Int32)), .val (.double w1), .second] [(.ref it)]))
    refine Goes.pre (fun t kt => XS.iload X86.here hx rfl (hb hby d7_38) rfl kt) ?_
    show Goes p e below s _ _ _ (T86.setTop (mkF m 40 #[.val (.ref a1), .val (.int (1 : Int32)), .val (.int (4 : Int32)), .val (.int (1 : Int32)), .val (.int (3 : Int32)), .val (.double w1), .second] [(.int (3 : Int32)), (.ref it)]))
    refine Goes.pre (fun t kt => XS.dload X86.here hx rfl (hb hby d7_40) rfl kt) ?_
    show Goes p e below s _ _ _ (T86.setTop (mkF m 42 #[.val (.ref a1), .val (.int (1 : Int32)), .val (.int (4 : Int32)), .val (.int (1 : Int32)), .val (.int (3 : Int32)), .val (.double w1), .second] [(.double w1), (.int (3 : Int32)), (.ref it)]))
    obtain ⟨cl87, Ar87, aq87, aS87, aN87, aH87, aG87⟩ := V84
    have hin87 : ¬ ((3 : Int32) < 0 ∨ cl87.slots.size ≤ ((3 : Int32)).toNatClampNeg) := inb_of aS87 ⟨by decide, by decide⟩
    obtain ⟨T87, h87, X87, e87, W87, st87⟩ := stD X86 hx hZ e86 Ar87 (j := (3 : Int32)) hin87 (g := (mkF m 42 #[.val (.ref a1), .val (.int (1 : Int32)), .val (.int (4 : Int32)), .val (.int (1 : Int32)), .val (.int (3 : Int32)), .val (.double w1), .second] [(.double w1), (.int (3 : Int32)), (.ref it)])) rfl rfl (hb hby d7_42)
    refine Goes.pre st87 ?_
    have Z87 : n0 ≤ h87.size := Nat.le_trans Z84 (Keep.of_wr W87).1
    have N87 := Fr.snoc X87 N84 pf_G_it
    have K87 := K84.wr W87 (Or.inl (List.mem_of_getElem? (i := 0) rfl))
    have V87 : Arv Z h87 it kd .double (4 : Int32) [(.double w0), (.double w3), (.double w2), (.double w1)] (.double (0 : UInt64)) := Arv.set Ar87 aq87 aS87 aN87 aH87 aG87 rfl W87 3 rfl (Nat.le_of_ble_eq_true rfl)
    show Goes p e below s _ _ _ (T87.setTop (mkF m 43 #[.val (.ref a1), .val (.int (1 : Int32)), .val (.int (4 : Int32)), .val (.int (1 : Int32)), .val (.int (3 : Int32)), .val (.double w1), .second] []))
    refine Goes.pre (fun t kt => XS.iinc X87.here hx rfl (hb hby d7_43) rfl (l' := #[.val (.ref a1), .val (.int (1 : Int32)), .val (.int (4 : Int32)), .val (.int (2 : Int32)), .val (.int (3 : Int32)), .val (.double w1), .second]) rfl kt) ?_
    show Goes p e below s _ _ _ (T87.setTop (mkF m 46 #[.val (.ref a1), .val (.int (1 : Int32)), .val (.int (4 : Int32)), .val (.int (2 : Int32)), .val (.int (3 : Int32)), .val (.double w1), .second] []))
    refine Goes.pre (fun t kt => XS.iinc X87.here hx rfl (hb hby d7_46) rfl (l' := #[.val (.ref a1), .val (.int (1 : Int32)), .val (.int (4 : Int32)), .val (.int (2 : Int32)), .val (.int (2 : Int32)), .val (.double w1), .second]) rfl kt) ?_
    show Goes p e below s _ _ _ (T87.setTop (mkF m 49 #[.val (.ref a1), .val (.int (1 : Int32)), .val (.int (4 : Int32)), .val (.int (2 : Int32)), .val (.int (2 : Int32)), .val (.double w1), .second] []))
    refine Goes.pre (fun t kt => XS.goto X87.here hx rfl (pc0 := 49) (pc' := 7) rfl (hb hby d7_49) (by decide) (by decide) kt) ?_
    show Goes p e below s _ _ _ (T87.setTop (mkF m 7 #[.val (.ref a1), .val (.int (1 : Int32)), .val (.int (4 : Int32)), .val (.int (2 : Int32)), .val (.int (2 : Int32)), .val (.double w1), .second] []))
    refine Goes.pre (fun t kt => XS.iloadN X87.here hx rfl (hb hby d7_7) rfl kt) ?_
    show Goes p e below s _ _ _ (T87.setTop (mkF m 8 #[.val (.ref a1), .val (.int (1 : Int32)), .val (.int (4 : Int32)), .val (.int (2 : Int32)), .val (.int (2 : Int32)), .val (.double w1), .second] [(.int (2 : Int32))]))
    refine Goes.pre (fun t kt => XS.iload X87.here hx rfl (hb hby d7_8) rfl kt) ?_
    show Goes p e below s _ _ _ (T87.setTop (mkF m 10 #[.val (.ref a1), .val (.int (1 : Int32)), .val (.int (4 : Int32)), .val (.int (2 : Int32)), .val (.int (2 : Int32)), .val (.double w1), .second] [(.int (2 : Int32)), (.int (2 : Int32))]))
    refine Goes.pre (fun t kt => XS.icmpYes X87.here hx rfl (pc0 := 10) (pc' := 52) rfl (hb hby d7_10) rfl (Jvm.Free.XT.ii_ge_t ((by decide))) (by decide) (by decide) kt) ?_
    show Goes p e below s _ _ _ (T87.setTop (mkF m 52 #[.val (.ref a1), .val (.int (1 : Int32)), .val (.int (4 : Int32)), .val (.int (2 : Int32)), .val (.int (2 : Int32)), .val (.double w1), .second] []))
    have qe88 : own_e (1 : Int32) (4 : Int32) (0 : Int32) w0 w1 w2 w3 = w0 := by simp [own_e, own_pick]
    have qe89 : own_e (1 : Int32) (4 : Int32) (1 : Int32) w0 w1 w2 w3 = w3 := by simp [own_e, own_pick]
    have qe90 : own_e (1 : Int32) (4 : Int32) (2 : Int32) w0 w1 w2 w3 = w2 := by simp [own_e, own_pick]
    have qe91 : own_e (1 : Int32) (4 : Int32) (3 : Int32) w0 w1 w2 w3 = w1 := by simp [own_e, own_pick]
    refine Goes.ret X87 none (fun _ => rfl) (BodyLoose.notSynchronized Bd) (by decide) (by decide) (fun fs hr => X87.returnOut hx Bd.returns (hb hby d7_52) hr) ?_
    show Q_rm7 Z a1 (1 : Int32) (4 : Int32) it kd w0 w1 w2 w3 h0 n0 _ T87.heap _
    rw [e87]
    exact ⟨rfl, N87, K87, (by rw [qe88, qe89, qe90, qe91]; exact V87)⟩
  · show Goes p e below s _ _ _ (s₁.setTop (mkF m 0 #[.val (.ref a1), .val (.int (2 : Int32)), .val (.int (2 : Int32)), .unset, .unset, .unset, .unset] []))
    refine Goes.pre (fun t kt => XS.iloadN X0.here hx rfl (hb hby d7_0) rfl kt) ?_
    show Goes p e below s _ _ _ (s₁.setTop (mkF m 1 #[.val (.ref a1), .val (.int (2 : Int32)), .val (.int (2 : Int32)), .unset, .unset, .unset, .unset] [(.int (2 : Int32))]))
    refine Goes.pre (fun t kt => XS.istoreN X0.here hx rfl (hb hby d7_1) rfl (l' := #[.val (.ref a1), .val (.int (2 : Int32)), .val (.int (2 : Int32)), .val (.int (2 : Int32)), .unset, .unset, .unset]) rfl kt) ?_
    show Goes p e below s _ _ _ (s₁.setTop (mkF m 2 #[.val (.ref a1), .val (.int (2 : Int32)), .val (.int (2 : Int32)), .val (.int (2 : Int32)), .unset, .unset, .unset] []))
    refine Goes.pre (fun t kt => XS.iloadN X0.here hx rfl (hb hby d7_2) rfl kt) ?_
    show Goes p e below s _ _ _ (s₁.setTop (mkF m 3 #[.val (.ref a1), .val (.int (2 : Int32)), .val (.int (2 : Int32)), .val (.int (2 : Int32)), .unset, .unset, .unset] [(.int (2 : Int32))]))
    refine Goes.pre (fun t kt => XS.iconst X0.here hx rfl (hb hby d7_3) kt) ?_
    show Goes p e below s _ _ _ (s₁.setTop (mkF m 4 #[.val (.ref a1), .val (.int (2 : Int32)), .val (.int (2 : Int32)), .val (.int (2 : Int32)), .unset, .unset, .unset] [(.int (1 : Int32)), (.int (2 : Int32))]))
    refine Goes.pre (fun t kt => XS.isub X0.here hx rfl (hb hby d7_4) rfl kt) ?_
    show Goes p e below s _ _ _ (s₁.setTop (mkF m 5 #[.val (.ref a1), .val (.int (2 : Int32)), .val (.int (2 : Int32)), .val (.int (2 : Int32)), .unset, .unset, .unset] [(.int (1 : Int32))]))
    refine Goes.pre (fun t kt => XS.istore X0.here hx rfl (hb hby d7_5) rfl (l' := #[.val (.ref a1), .val (.int (2 : Int32)), .val (.int (2 : Int32)), .val (.int (2 : Int32)), .val (.int (1 : Int32)), .unset, .unset]) rfl kt) ?_
    show Goes p e below s _ _ _ (s₁.setTop (mkF m 7 #[.val (.ref a1), .val (.int (2 : Int32)), .val (.int (2 : Int32)), .val (.int (2 : Int32)), .val (.int (1 : Int32)), .unset, .unset] []))
    refine Goes.pre (fun t kt => XS.iloadN X0.here hx rfl (hb hby d7_7) rfl kt) ?_
    show Goes p e below s _ _ _ (s₁.setTop (mkF m 8 #[.val (.ref a1), .val (.int (2 : Int32)), .val (.int (2 : Int32)), .val (.int (2 : Int32)), .val (.int (1 : Int32)), .unset, .unset] [(.int (2 : Int32))]))
    refine Goes.pre (fun t kt => XS.iload X0.here hx rfl (hb hby d7_8) rfl kt) ?_
    show Goes p e below s _ _ _ (s₁.setTop (mkF m 10 #[.val (.ref a1), .val (.int (2 : Int32)), .val (.int (2 : Int32)), .val (.int (2 : Int32)), .val (.int (1 : Int32)), .unset, .unset] [(.int (1 : Int32)), (.int (2 : Int32))]))
    refine Goes.pre (fun t kt => XS.icmpYes X0.here hx rfl (pc0 := 10) (pc' := 52) rfl (hb hby d7_10) rfl (Jvm.Free.XT.ii_ge_t ((by decide))) (by decide) (by decide) kt) ?_
    show Goes p e below s _ _ _ (s₁.setTop (mkF m 52 #[.val (.ref a1), .val (.int (2 : Int32)), .val (.int (2 : Int32)), .val (.int (2 : Int32)), .val (.int (1 : Int32)), .unset, .unset] []))
    have qe92 : own_e (2 : Int32) (2 : Int32) (0 : Int32) w0 w1 w2 w3 = w0 := by simp [own_e, own_pick]
    have qe93 : own_e (2 : Int32) (2 : Int32) (1 : Int32) w0 w1 w2 w3 = w1 := by simp [own_e, own_pick]
    have qe94 : own_e (2 : Int32) (2 : Int32) (2 : Int32) w0 w1 w2 w3 = w2 := by simp [own_e, own_pick]
    have qe95 : own_e (2 : Int32) (2 : Int32) (3 : Int32) w0 w1 w2 w3 = w3 := by simp [own_e, own_pick]
    refine Goes.ret X0 none (fun _ => rfl) (BodyLoose.notSynchronized Bd) (by decide) (by decide) (fun fs hr => X0.returnOut hx Bd.returns (hb hby d7_52) hr) ?_
    show Q_rm7 Z a1 (2 : Int32) (2 : Int32) it kd w0 w1 w2 w3 h0 n0 _ s₁.heap _
    rw [e0]
    exact ⟨rfl, N0, K0, (by rw [qe92, qe93, qe94, qe95]; exact pf_V_it)⟩
  · show Goes p e below s _ _ _ (s₁.setTop (mkF m 0 #[.val (.ref a1), .val (.int (2 : Int32)), .val (.int (3 : Int32)), .unset, .unset, .unset, .unset] []))
    refine Goes.pre (fun t kt => XS.iloadN X0.here hx rfl (hb hby d7_0) rfl kt) ?_
    show Goes p e below s _ _ _ (s₁.setTop (mkF m 1 #[.val (.ref a1), .val (.int (2 : Int32)), .val (.int (3 : Int32)), .unset, .unset, .unset, .unset] [(.int (2 : Int32))]))
    refine Goes.pre (fun t kt => XS.istoreN X0.here hx rfl (hb hby d7_1) rfl (l' := #[.val (.ref a1), .val (.int (2 : Int32)), .val (.int (3 : Int32)), .val (.int (2 : Int32)), .unset, .unset, .unset]) rfl kt) ?_
    show Goes p e below s _ _ _ (s₁.setTop (mkF m 2 #[.val (.ref a1), .val (.int (2 : Int32)), .val (.int (3 : Int32)), .val (.int (2 : Int32)), .unset, .unset, .unset] []))
    refine Goes.pre (fun t kt => XS.iloadN X0.here hx rfl (hb hby d7_2) rfl kt) ?_
    show Goes p e below s _ _ _ (s₁.setTop (mkF m 3 #[.val (.ref a1), .val (.int (2 : Int32)), .val (.int (3 : Int32)), .val (.int (2 : Int32)), .unset, .unset, .unset] [(.int (3 : Int32))]))
    refine Goes.pre (fun t kt => XS.iconst X0.here hx rfl (hb hby d7_3) kt) ?_
    show Goes p e below s _ _ _ (s₁.setTop (mkF m 4 #[.val (.ref a1), .val (.int (2 : Int32)), .val (.int (3 : Int32)), .val (.int (2 : Int32)), .unset, .unset, .unset] [(.int (1 : Int32)), (.int (3 : Int32))]))
    refine Goes.pre (fun t kt => XS.isub X0.here hx rfl (hb hby d7_4) rfl kt) ?_
    show Goes p e below s _ _ _ (s₁.setTop (mkF m 5 #[.val (.ref a1), .val (.int (2 : Int32)), .val (.int (3 : Int32)), .val (.int (2 : Int32)), .unset, .unset, .unset] [(.int (2 : Int32))]))
    refine Goes.pre (fun t kt => XS.istore X0.here hx rfl (hb hby d7_5) rfl (l' := #[.val (.ref a1), .val (.int (2 : Int32)), .val (.int (3 : Int32)), .val (.int (2 : Int32)), .val (.int (2 : Int32)), .unset, .unset]) rfl kt) ?_
    show Goes p e below s _ _ _ (s₁.setTop (mkF m 7 #[.val (.ref a1), .val (.int (2 : Int32)), .val (.int (3 : Int32)), .val (.int (2 : Int32)), .val (.int (2 : Int32)), .unset, .unset] []))
    refine Goes.pre (fun t kt => XS.iloadN X0.here hx rfl (hb hby d7_7) rfl kt) ?_
    show Goes p e below s _ _ _ (s₁.setTop (mkF m 8 #[.val (.ref a1), .val (.int (2 : Int32)), .val (.int (3 : Int32)), .val (.int (2 : Int32)), .val (.int (2 : Int32)), .unset, .unset] [(.int (2 : Int32))]))
    refine Goes.pre (fun t kt => XS.iload X0.here hx rfl (hb hby d7_8) rfl kt) ?_
    show Goes p e below s _ _ _ (s₁.setTop (mkF m 10 #[.val (.ref a1), .val (.int (2 : Int32)), .val (.int (3 : Int32)), .val (.int (2 : Int32)), .val (.int (2 : Int32)), .unset, .unset] [(.int (2 : Int32)), (.int (2 : Int32))]))
    refine Goes.pre (fun t kt => XS.icmpYes X0.here hx rfl (pc0 := 10) (pc' := 52) rfl (hb hby d7_10) rfl (Jvm.Free.XT.ii_ge_t ((by decide))) (by decide) (by decide) kt) ?_
    show Goes p e below s _ _ _ (s₁.setTop (mkF m 52 #[.val (.ref a1), .val (.int (2 : Int32)), .val (.int (3 : Int32)), .val (.int (2 : Int32)), .val (.int (2 : Int32)), .unset, .unset] []))
    have qe96 : own_e (2 : Int32) (3 : Int32) (0 : Int32) w0 w1 w2 w3 = w0 := by simp [own_e, own_pick]
    have qe97 : own_e (2 : Int32) (3 : Int32) (1 : Int32) w0 w1 w2 w3 = w1 := by simp [own_e, own_pick]
    have qe98 : own_e (2 : Int32) (3 : Int32) (2 : Int32) w0 w1 w2 w3 = w2 := by simp [own_e, own_pick]
    have qe99 : own_e (2 : Int32) (3 : Int32) (3 : Int32) w0 w1 w2 w3 = w3 := by simp [own_e, own_pick]
    refine Goes.ret X0 none (fun _ => rfl) (BodyLoose.notSynchronized Bd) (by decide) (by decide) (fun fs hr => X0.returnOut hx Bd.returns (hb hby d7_52) hr) ?_
    show Q_rm7 Z a1 (2 : Int32) (3 : Int32) it kd w0 w1 w2 w3 h0 n0 _ s₁.heap _
    rw [e0]
    exact ⟨rfl, N0, K0, (by rw [qe96, qe97, qe98, qe99]; exact pf_V_it)⟩
  · show Goes p e below s _ _ _ (s₁.setTop (mkF m 0 #[.val (.ref a1), .val (.int (2 : Int32)), .val (.int (4 : Int32)), .unset, .unset, .unset, .unset] []))
    refine Goes.pre (fun t kt => XS.iloadN X0.here hx rfl (hb hby d7_0) rfl kt) ?_
    show Goes p e below s _ _ _ (s₁.setTop (mkF m 1 #[.val (.ref a1), .val (.int (2 : Int32)), .val (.int (4 : Int32)), .unset, .unset, .unset, .unset] [(.int (2 : Int32))]))
    refine Goes.pre (fun t kt => XS.istoreN X0.here hx rfl (hb hby d7_1) rfl (l' := #[.val (.ref a1), .val (.int (2 : Int32)), .val (.int (4 : Int32)), .val (.int (2 : Int32)), .unset, .unset, .unset]) rfl kt) ?_
    show Goes p e below s _ _ _ (s₁.setTop (mkF m 2 #[.val (.ref a1), .val (.int (2 : Int32)), .val (.int (4 : Int32)), .val (.int (2 : Int32)), .unset, .unset, .unset] []))
    refine Goes.pre (fun t kt => XS.iloadN X0.here hx rfl (hb hby d7_2) rfl kt) ?_
    show Goes p e below s _ _ _ (s₁.setTop (mkF m 3 #[.val (.ref a1), .val (.int (2 : Int32)), .val (.int (4 : Int32)), .val (.int (2 : Int32)), .unset, .unset, .unset] [(.int (4 : Int32))]))
    refine Goes.pre (fun t kt => XS.iconst X0.here hx rfl (hb hby d7_3) kt) ?_
    show Goes p e below s _ _ _ (s₁.setTop (mkF m 4 #[.val (.ref a1), .val (.int (2 : Int32)), .val (.int (4 : Int32)), .val (.int (2 : Int32)), .unset, .unset, .unset] [(.int (1 : Int32)), (.int (4 : Int32))]))
    refine Goes.pre (fun t kt => XS.isub X0.here hx rfl (hb hby d7_4) rfl kt) ?_
    show Goes p e below s _ _ _ (s₁.setTop (mkF m 5 #[.val (.ref a1), .val (.int (2 : Int32)), .val (.int (4 : Int32)), .val (.int (2 : Int32)), .unset, .unset, .unset] [(.int (3 : Int32))]))
    refine Goes.pre (fun t kt => XS.istore X0.here hx rfl (hb hby d7_5) rfl (l' := #[.val (.ref a1), .val (.int (2 : Int32)), .val (.int (4 : Int32)), .val (.int (2 : Int32)), .val (.int (3 : Int32)), .unset, .unset]) rfl kt) ?_
    show Goes p e below s _ _ _ (s₁.setTop (mkF m 7 #[.val (.ref a1), .val (.int (2 : Int32)), .val (.int (4 : Int32)), .val (.int (2 : Int32)), .val (.int (3 : Int32)), .unset, .unset] []))
    refine Goes.pre (fun t kt => XS.iloadN X0.here hx rfl (hb hby d7_7) rfl kt) ?_
    show Goes p e below s _ _ _ (s₁.setTop (mkF m 8 #[.val (.ref a1), .val (.int (2 : Int32)), .val (.int (4 : Int32)), .val (.int (2 : Int32)), .val (.int (3 : Int32)), .unset, .unset] [(.int (2 : Int32))]))
    refine Goes.pre (fun t kt => XS.iload X0.here hx rfl (hb hby d7_8) rfl kt) ?_
    show Goes p e below s _ _ _ (s₁.setTop (mkF m 10 #[.val (.ref a1), .val (.int (2 : Int32)), .val (.int (4 : Int32)), .val (.int (2 : Int32)), .val (.int (3 : Int32)), .unset, .unset] [(.int (3 : Int32)), (.int (2 : Int32))]))
    refine Goes.pre (fun t kt => XS.icmpNo X0.here hx rfl (hb hby d7_10) rfl (Jvm.Free.XT.ii_ge_f ((by decide))) kt) ?_
    show Goes p e below s _ _ _ (s₁.setTop (mkF m 13 #[.val (.ref a1), .val (.int (2 : Int32)), .val (.int (4 : Int32)), .val (.int (2 : Int32)), .val (.int (3 : Int32)), .unset, .unset] []))
    refine Goes.pre (fun t kt => XS.aloadN X0.here hx rfl (hb hby d7_13) rfl rfl kt) ?_
    show Goes p e below s _ _ _ (s₁.setTop (mkF m 14 #[.val (.ref a1), .val (.int (2 : Int32)), .val (.int (4 : Int32)), .val (.int (2 : Int32)), .val (.int (3 : Int32)), .unset, .unset] [(.ref a1)]))
    obtain ⟨T100, X100, e100, st100⟩ := getF X0 hx hZ hown (host := "") (Or.inl (hw _ (List.mem_of_getElem? (i := 23) rfl))) Via.refl e0 pf_F_a1_com_example_quantail_quantail_NumberArray_items (g := (mkF m 14 #[.val (.ref a1), .val (.int (2 : Int32)), .val (.int (4 : Int32)), .val (.int (2 : Int32)), .val (.int (3 : Int32)), .unset, .unset] [(.ref a1)])) rfl rfl (hb hby d7_14)
    refine Goes.pre st100 ?_
    show Goes p e below s _ _ _ (T100.setTop (mkF m 17 #[.val (.ref a1), .val (.int (2 : Int32)), .val (.int (4 : Int32)), .val (.int (2 : Int32)), .val (.int (3 : Int32)), .unset, .unset] [(.ref it)]))
    refine Goes.pre (fun t kt => XS.iloadN X100.here hx rfl (hb hby d7_17) rfl kt) ?_
    show Goes p e below s _ _ _ (T100.setTop (mkF m 18 #[.val (.ref a1), .val (.int (2 : Int32)), .val (.int (4 : Int32)), .val (.int (2 : Int32)), .val (.int (3 : Int32)), .unset, .unset] [(.int (2 : Int32)), (.ref it)]))
    obtain ⟨cl101, Ar101, aq101, aS101, aN101, aH101, aG101⟩ := pf_V_it
    have V101 : Arv Z h0 it kd .double (4 : Int32) [(.double w0), (.double w1), (.double w2), (.double w3)] (.double (0 : UInt64)) := ⟨cl101, Ar101, aq101, aS101, aN101, aH101, aG101⟩
    have hin101 : ¬ ((2 : Int32) < 0 ∨ cl101.slots.size ≤ ((2 : Int32)).toNatClampNeg) := inb_of aS101 ⟨by decide, by decide⟩
    have hat101 : cl101.slots[((2 : Int32)).toNatClampNeg]? = some (.double w2) := aH101.at hin101 rfl
    refine Goes.pre (X100.daload hx (j := (2 : Int32)) (v := (.double w2)) (by rw [e100]; exact Ar101.1) (State.isArrayOf_alike hZ.alike Ar101.2.1) Ar101.2.2 hin101 hat101 (g := (mkF m 18 #[.val (.ref a1), .val (.int (2 : Int32)), .val (.int (4 : Int32)), .val (.int (2 : Int32)), .val (.int (3 : Int32)), .unset, .unset] [(.int (2 : Int32)), (.ref it)])) rfl rfl (hb hby d7_18)) ?_
    show Goes p e below s _ _ _ (T100.setTop (mkF m 19 #[.val (.ref a1), .val (.int (2 : Int32)), .val (.int (4 : Int32)), .val (.int (2 : Int32)), .val (.int (3 : Int32)), .unset, .unset] [(.double w2)]))
    refine Goes.pre (fun t kt => XS.dstore X100.here hx rfl (hb hby d7_19) rfl (l' := #[.val (.ref a1), .val (.int (2 : Int32)), .val (.int (4 : Int32)), .val (.int (2 : Int32)), .val (.int (3 : Int32)), .val (.double w2), .second]) rfl kt) ?_
    show Goes p e below s _ _ _ (T100.setTop (mkF m 21 #[.val (.ref a1), .val (.int (2 : Int32)), .val (.int (4 : Int32)), .val (.int (2 : Int32)), .val (.int (3 : Int32)), .val (.double w2), .second] []))
    refine Goes.pre (fun t kt => XS.aloadN X100.here hx rfl (hb hby d7_21) rfl rfl kt) ?_
    show Goes p e below s _ _ _ (T100.setTop (mkF m 22 #[.val (.ref a1), .val (.int (2 : Int32)), .val (.int (4 : Int32)), .val (.int (2 : Int32)), .val (.int (3 : Int32)), .val (.double w2), .second] [(.ref a1)]))
    obtain ⟨T102, X102, e102, st102⟩ := getF X100 hx hZ hown (host := "") (Or.inl (hw _ (List.mem_of_getElem? (i := 23) rfl))) Via.refl e100 pf_F_a1_com_example_quantail_quantail_NumberArray_items (g := (mkF m 22 #[.val (.ref a1), .val (.int (2 : Int32)), .val (.int (4 : Int32)), .val (.int (2 : Int32)), .val (.int (3 : Int32)), .val (.double w2), .second] [(.ref a1)])) rfl rfl (hb hby d7_22)
    refine Goes.pre st102 ?_
    show Goes p e below s _ _ _ (T102.setTop (mkF m 25 #[.val (.ref a1), .val (.int (2 : Int32)), .val (.int (4 : Int32)), .val (.int (2 : Int32)), .val (.int (3 : Int32)), .val (.double w2), .second] [(.ref it)]))
    refine Goes.pre (fun t kt => XS.iloadN X102.here hx rfl (hb hby d7_25) rfl kt) ?_
    show Goes p e below s _ _ _ (T102.setTop (mkF m 26 #[.val (.ref a1), .val (.int (2 : Int32)), .val (.int (4 : Int32)), .val (.int (2 : Int32)), .val (.int (3 : Int32)), .val (.double w2), .second] [(.int (2 : Int32)), (.ref it)]))
    refine Goes.pre (fun t kt => XS.aloadN X102.here hx rfl (hb hby d7_26) rfl rfl kt) ?_
    show Goes p e below s _ _ _ (T102.setTop (mkF m 27 #[.val (.ref a1), .val (.int (2 : Int32)), .val (.int (4 : Int32)), .val (.int (2 : Int32)), .val (.int (3 : Int32)), .val (.double w2), .second] [(.ref a1), (.int (2 : Int32)), (.ref it)]))
    obtain ⟨T103, X103, e103, st103⟩ := getF X102 hx hZ hown (host := "") (Or.inl (hw _ (List.mem_of_getElem? (i := 23) rfl))) Via.refl e102 pf_F_a1_com_example_quantail_quantail_NumberArray_items (g := (mkF m 27 #[.val (.ref a1), .val (.int (2 : Int32)), .val (.int (4 : Int32)), .val (.int (2 : Int32)), .val (.int (3 : Int32)), .val (.double w2), .second] [(.ref a1), (.int (2 : Int32)), (.ref it)])) rfl rfl (hb hby d7_27)
    refine Goes.pre st103 ?_
    show Goes p e below s _ _ _ (T103.setTop (mkF m 30 #[.val (.ref a1), .val (.int (2 : Int32)), .val (.int (4 : Int32)), .val (.int (2 : Int32)), .val (.int (3 : Int32)), .val (.double w2), .second] [(.ref it), (.int (2 : Int32)), (.ref it)]))
    refine Goes.pre (fun t kt => XS.iload X103.here hx rfl (hb hby d7_30) rfl kt) ?_
    show Goes p e below s _ _ _ (T103.setTop (mkF m 32 #[.val (.ref a1), .val (.int (2 : Int32)), .val (.int (4 : Int32)), .val (.int (2 : Int32)), .val (.int (3 : Int32)), .val (.double w2), .second] [(.int (3 : Int32)), (.ref it), (.int (2 : Int32)), (.ref it)]))
    obtain ⟨cl104, Ar104, aq104, aS104, aN104, aH104, aG104⟩ := V101
    have V104 : Arv Z h0 it kd .double (4 : Int32) [(.double w0), (.double w1), (.double w2), (.double w3)] (.double (0 : UInt64)) := ⟨cl104, Ar104, aq104, aS104, aN104, aH104, aG104⟩
    have hin104 : ¬ ((3 : Int32) < 0 ∨ cl104.slots.size ≤ ((3 : Int32)).toNatClampNeg) := inb_of aS104 ⟨by decide, by decide⟩
    have hat104 : cl104.slots[((3 : Int32)).toNatClampNeg]? = some (.double w3) := aH104.at hin104 rfl
    refine Goes.pre (X103.daload hx (j := (3 : Int32)) (v := (.double w3)) (by rw [e103]; exact Ar104.1) (State.isArrayOf_alike hZ.alike Ar104.2.1) Ar104.2.2 hin104 hat104 (g := (mkF m 32 #[.val (.ref a1), .val (.int (2 : Int32)), .val (.int (4 : Int32)), .val (.int (2 : Int32)), .val (.int (3 : Int32)), .val (.double w2), .second] [(.int (3 : Int32)), (.ref it), (.int (2 : Int32)), (.ref it)])) rfl rfl (hb hby d7_32)) ?_
    show Goes p e below s _ _ _ (T103.setTop (mkF m 33 #[.val (.ref a1), .val (.int (2 : Int32)), .val (.int (4 : Int32)), .val (.int (2 : Int32)), .val (.int (3 : Int32)), .val (.double w2), .second] [(.double w3), (.int (2 : Int32)), (.ref it)]))
    obtain ⟨cl105, Ar105, aq105, aS105, aN105, aH105, aG105⟩ := V104
    have hin105 : ¬ ((2 : Int32) < 0 ∨ cl105.slots.size ≤ ((2 : Int32)).toNatClampNeg) := inb_of aS105 ⟨by decide, by decide⟩
    obtain ⟨T105, h105, X105, e105, W105, st105⟩ := stD X103 hx hZ e103 Ar105 (j := (2 : Int32)) hin105 (g := (mkF m 33 #[.val (.ref a1), .val (.int (2 : Int32)), .val (.int (4 : Int32)), .val (.int (2 : Int32)), .val (.int (3 : Int32)), .val (.double w2), .second] [(.double w3), (.int (2 : Int32)), (.ref it)])) rfl rfl (hb hby d7_33)
    refine Goes.pre st105 ?_
    have Z105 : n0 ≤ h105.size := Nat.le_trans Z0 (Keep.of_wr W105).1
    have N105 := Fr.snoc X105 N0 pf_G_it
    have K105 := K0.wr W105 (Or.inl (List.mem_of_getElem? (i := 0) rfl))
    have V105 : Arv Z h105 it kd .double (4 : Int32) [(.double w0), (.double w1), (.double w3), (.double w3)] (.double (0 : UInt64)) := Arv.set Ar105 aq105 aS105 aN105 aH105 aG105 rfl W105 2 rfl (Nat.le_of_ble_eq_true rfl)
    show Goes p e below s _ _ _ (T105.setTop (mkF m 34 #[.val (.ref a1), .val (.int (2 : Int32)), .val (.int (4 : Int32)), .val (.int (2 : Int32)), .val (.int (3 : Int32)), .val (.double w2), .second] []))
    refine Goes.pre (fun t kt => XS.aloadN X105.here hx rfl (hb hby d7_34) rfl rfl kt) ?_
    show Goes p e below s _ _ _ (T105.setTop (mkF m 35 #[.val (.ref a1), .val (.int (2 : Int32)), .val (.int (4 : Int32)), .val (.int (2 : Int32)), .val (.int (3 : Int32)), .val (.double w2), .second] [(.ref a1)]))
    have fc106 : Fld Z h105 a1 "com/example/quantail/quantail/NumberArray" "items" "[D" (.ref it) := (pf_F_a1_com_example_quantail_quantail_NumberArray_items.other W105 (Or.inl pf_NE_a1_it))
    obtain ⟨T107, X107, e107, st107⟩ := getF X105 hx hZ hown (host := "") (Or.inl (hw _ (List.mem_of_getElem? (i := 23) rfl))) Via.refl e105 fc106 (g := (mkF m 35 #[.val (.ref a1), .val (.int (2 : Int32)), .val (.int (4 : Int32)), .val (.int (2 : Int32)), .val (.int (3 : Int32)), .val (.double w2), .second] [(.ref a1)])) rfl rfl (hb hby d7_35)
    refine Goes.pre st107 ?_
    show Goes p e below s _ _ _ (T107.setTop (mkF m 38 #[.val (.ref a1), .val (.int (2 : Int32)), .val (.int (4 : Int32)), .val (.int (2 : Int32)), .val (.int (3 : Int32)), .val (.double w2), .second] [(.ref it)]))
    refine Goes.pre (fun t kt => XS.iload X107.here hx rfl (hb hby d7_38) rfl kt) ?_
    show Goes p e below s _ _ _ (T107.setTop (mkF m 40 #[.val (.ref a1), .val (.int (2 : Int32)), .val (.int (4 : Int32)), .val (.int (2 : Int32)), .val (.int (3 : Int32)), .val (.double w2), .second] [(.int (3 : Int32)), (.ref it)]))
    refine Goes.pre (fun t kt => XS.dload X107.here hx rfl (hb hby d7_40) rfl kt) ?_
    show Goes p e below s _ _ _ (T107.setTop (mkF m 42 #[.val (.ref a1), .val (.int (2 : Int32)), .val (.int (4 : Int32)), .val (.int (2 : Int32)), .val (.int (3 : Int32)), .val (.double w2), .second] [(.double w2), (.int (3 : Int32)), (.ref it)]))
    obtain ⟨cl108, Ar108, aq108, aS108, aN108, aH108, aG108⟩ := V105
    have hin108 : ¬ ((3 : Int32) < 0 ∨ cl108.slots.size ≤ ((3 : Int32)).toNatClampNeg) := inb_of aS108 ⟨by decide, by decide⟩
    obtain ⟨T108, h108, X108, e108, W108, st108⟩ := stD X107 hx hZ e107 Ar108 (j := (3 : Int32)) hin108 (g := (mkF m 42 #[.val (.ref a1), .val (.int (2 : Int32)), .val (.int (4 : Int32)), .val (.int (2 : Int32)), .val (.int (3 : Int32)), .val (.double w2), .second] [(.double w2), (.int (3 : Int32)), (.ref it)])) rfl rfl (hb hby d7_42)
    refine Goes.pre st108 ?_
    have Z108 : n0 ≤ h108.size := Nat.le_trans Z105 (Keep.of_wr W108).1
    have N108 := Fr.snoc X108 N105 pf_G_it
    have K108 := K105.wr W108 (Or.inl (List.mem_of_getElem? (i := 0) rfl))
    have V108 : Arv Z h108 it kd .double (4 : Int32) [(.double w0), (.double w1), (.double w3), (.double w2)] (.double (0 : UInt64)) := Arv.set Ar108 aq108 aS108 aN108 aH108 aG108 rfl W108 3 rfl (Nat.le_of_ble_eq_true rfl)
    show Goes p e below s _ _ _ (T108.setTop (mkF m 43 #[.val (.ref a1), .val (.int (2 : Int32)), .val (.int (4 : Int32)), .val (.int (2 : Int32)), .val (.int (3 : Int32)), .val (.double w2), .second] []))
    refine Goes.pre (fun t kt => XS.iinc X108.here hx rfl (hb hby d7_43) rfl (l' := #[.val (.ref a1), .val (.int (2 : Int32)), .val (.int (4 : Int32)), .val (.int (3 : Int32)), .val (.int (3 : Int32)), .val (.double w2), .second]) rfl kt) ?_
    show Goes p e below s _ _ _ (T108.setTop (mkF m 46 #[.val (.ref a1), .val (.int (2 : Int32)), .val (.int (4 : Int32)), .val (.int (3 : Int32)), .val (.int (3 : Int32)), .val (.double w2), .second] []))
    refine Goes.pre (fun t kt => XS.iinc X108.here hx rfl (hb hby d7_46) rfl (l' := #[.val (.ref a1), .val (.int (2 : Int32)), .val (.int (4 : Int32)), .val (.int (3 : Int32)), .val (.int (2 : Int32)), .val (.double w2), .second]) rfl kt) ?_
    show Goes p e below s _ _ _ (T108.setTop (mkF m 49 #[.val (.ref a1), .val (.int (2 : Int32)), .val (.int (4 : Int32)), .val (.int (3 : Int32)), .val (.int (2 : Int32)), .val (.double w2), .second] []))
    refine Goes.pre (fun t kt => XS.goto X108.here hx rfl (pc0 := 49) (pc' := 7) rfl (hb hby d7_49) (by decide) (by decide) kt) ?_
    show Goes p e below s _ _ _ (T108.setTop (mkF m 7 #[.val (.ref a1), .val (.int (2 : Int32)), .val (.int (4 : Int32)), .val (.int (3 : Int32)), .val (.int (2 : Int32)), .val (.double w2), .second] []))
    refine Goes.pre (fun t kt => XS.iloadN X108.here hx rfl (hb hby d7_7) rfl kt) ?_
    show Goes p e below s _ _ _ (T108.setTop (mkF m 8 #[.val (.ref a1), .val (.int (2 : Int32)), .val (.int (4 : Int32)), .val (.int (3 : Int32)), .val (.int (2 : Int32)), .val (.double w2), .second] [(.int (3 : Int32))]))
    refine Goes.pre (fun t kt => XS.iload X108.here hx rfl (hb hby d7_8) rfl kt) ?_
    show Goes p e below s _ _ _ (T108.setTop (mkF m 10 #[.val (.ref a1), .val (.int (2 : Int32)), .val (.int (4 : Int32)), .val (.int (3 : Int32)), .val (.int (2 : Int32)), .val (.double w2), .second] [(.int (2 : Int32)), (.int (3 : Int32))]))
    refine Goes.pre (fun t kt => XS.icmpYes X108.here hx rfl (pc0 := 10) (pc' := 52) rfl (hb hby d7_10) rfl (Jvm.Free.XT.ii_ge_t ((by decide))) (by decide) (by decide) kt) ?_
    show Goes p e below s _ _ _ (T108.setTop (mkF m 52 #[.val (.ref a1), .val (.int (2 : Int32)), .val (.int (4 : Int32)), .val (.int (3 : Int32)), .val (.int (2 : Int32)), .val (.double w2), .second] []))
    have qe109 : own_e (2 : Int32) (4 : Int32) (0 : Int32) w0 w1 w2 w3 = w0 := by simp [own_e, own_pick]
    have qe110 : own_e (2 : Int32) (4 : Int32) (1 : Int32) w0 w1 w2 w3 = w1 := by simp [own_e, own_pick]
    have qe111 : own_e (2 : Int32) (4 : Int32) (2 : Int32) w0 w1 w2 w3 = w3 := by simp [own_e, own_pick]
    have qe112 : own_e (2 : Int32) (4 : Int32) (3 : Int32) w0 w1 w2 w3 = w2 := by simp [own_e, own_pick]
    refine Goes.ret X108 none (fun _ => rfl) (BodyLoose.notSynchronized Bd) (by decide) (by decide) (fun fs hr => X108.returnOut hx Bd.returns (hb hby d7_52) hr) ?_
    show Q_rm7 Z a1 (2 : Int32) (4 : Int32) it kd w0 w1 w2 w3 h0 n0 _ T108.heap _
    rw [e108]
    exact ⟨rfl, N108, K108, (by rw [qe109, qe110, qe111, qe112]; exact V108)⟩
  · show Goes p e below s _ _ _ (s₁.setTop (mkF m 0 #[.val (.ref a1), .val (.int (3 : Int32)), .val (.int (3 : Int32)), .unset, .unset, .unset, .unset] []))
    refine Goes.pre (fun t kt => XS.iloadN X0.here hx rfl (hb hby d7_0) rfl kt) ?_
    show Goes p e below s _ _ _ (s₁.setTop (mkF m 1 #[.val (.ref a1), .val (.int (3 : Int32)), .val (.int (3 : Int32)), .unset, .unset, .unset, .unset] [(.int (3 : Int32))]))
    refine Goes.pre (fun t kt => XS.istoreN X0.here hx rfl (hb hby d7_1) rfl (l' := #[.val (.ref a1), .val (.int (3 : Int32)), .val (.int (3 : Int32)), .val (.int (3 : Int32)), .unset, .unset, .unset]) rfl kt) ?_
    show Goes p e below s _ _ _ (s₁.setTop (mkF m 2 #[.val (.ref a1), .val (.int (3 : Int32)), .val (.int (3 : Int32)), .val (.int (3 : Int32)), .unset, .unset, .unset] []))
    refine Goes.pre (fun t kt => XS.iloadN X0.here hx rfl (hb hby d7_2) rfl kt) ?_
    show Goes p e below s _ _ _ (s₁.setTop (mkF m 3 #[.val (.ref a1), .val (.int (3 : Int32)), .val (.int (3 : Int32)), .val (.int (3 : Int32)), .unset, .unset, .unset] [(.int (3 : Int32))]))
    refine Goes.pre (fun t kt => XS.iconst X0.here hx rfl (hb hby d7_3) kt) ?_
    show Goes p e below s _ _ _ (s₁.setTop (mkF m 4 #[.val (.ref a1), .val (.int (3 : Int32)), .val (.int (3 : Int32)), .val (.int (3 : Int32)), .unset, .unset, .unset] [(.int (1 : Int32)), (.int (3 : Int32))]))
    refine Goes.pre (fun t kt => XS.isub X0.here hx rfl (hb hby d7_4) rfl kt) ?_
    show Goes p e below s _ _ _ (s₁.setTop (mkF m 5 #[.val (.ref a1), .val (.int (3 : Int32)), .val (.int (3 : Int32)), .val (.int (3 : Int32)), .unset, .unset, .unset] [(.int (2 : Int32))]))
    refine Goes.pre (fun t kt => XS.istore X0.here hx rfl (hb hby d7_5) rfl (l' := #[.val (.ref a1), .val (.int (3 : Int32)), .val (.int (3 : Int32)), .val (.int (3 : Int32)), .val (.int (2 : Int32)), .unset, .unset]) rfl kt) ?_
    show Goes p e below s _ _ _ (s₁.setTop (mkF m 7 #[.val (.ref a1), .val (.int (3 : Int32)), .val (.int (3 : Int32)), .val (.int (3 : Int32)), .val (.int (2 : Int32)), .unset, .unset] []))
    refine Goes.pre (fun t kt => XS.iloadN X0.here hx rfl (hb hby d7_7) rfl kt) ?_
    show Goes p e below s _ _ _ (s₁.setTop (mkF m 8 #[.val (.ref a1), .val (.int (3 : Int32)), .val (.int (3 : Int32)), .val (.int (3 : Int32)), .val (.int (2 : Int32)), .unset, .unset] [(.int (3 : Int32))]))
    refine Goes.pre (fun t kt => XS.iload X0.here hx rfl (hb hby d7_8) rfl kt) ?_
    show Goes p e below s _ _ _ (s₁.setTop (mkF m 10 #[.val (.ref a1), .val (.int (3 : Int32)), .val (.int (3 : Int32)), .val (.int (3 : Int32)), .val (.int (2 : Int32)), .unset, .unset] [(.int (2 : Int32)), (.int (3 : Int32))]))
    refine Goes.pre (fun t kt => XS.icmpYes X0.here hx rfl (pc0 := 10) (pc' := 52) rfl (hb hby d7_10) rfl (Jvm.Free.XT.ii_ge_t ((by decide))) (by decide) (by decide) kt) ?_
    show Goes p e below s _ _ _ (s₁.setTop (mkF m 52 #[.val (.ref a1), .val (.int (3 : Int32)), .val (.int (3 : Int32)), .val (.int (3 : Int32)), .val (.int (2 : Int32)), .unset, .unset] []))
    have qe113 : own_e (3 : Int32) (3 : Int32) (0 : Int32) w0 w1 w2 w3 = w0 := by simp [own_e, own_pick]
    have qe114 : own_e (3 : Int32) (3 : Int32) (1 : Int32) w0 w1 w2 w3 = w1 := by simp [own_e, own_pick]
    have qe115 : own_e (3 : Int32) (3 : Int32) (2 : Int32) w0 w1 w2 w3 = w2 := by simp [own_e, own_pick]
    have qe116 : own_e (3 : Int32) (3 : Int32) (3 : Int32) w0 w1 w2 w3 = w3 := by simp [own_e, own_pick]
    refine Goes.ret X0 none (fun _ => rfl) (BodyLoose.notSynchronized Bd) (by decide) (by decide) (fun fs hr => X0.returnOut hx Bd.returns (hb hby d7_52) hr) ?_
    show Q_rm7 Z a1 (3 : Int32) (3 : Int32) it kd w0 w1 w2 w3 h0 n0 _ s₁.heap _
    rw [e0]
    exact ⟨rfl, N0, K0, (by rw [qe113, qe114, qe115, qe116]; exact pf_V_it)⟩
  · show Goes p e below s _ _ _ (s₁.setTop (mkF m 0 #[.val (.ref a1), .val (.int (3 : Int32)), .val (.int (4 : Int32)), .unset, .unset, .unset, .unset] []))
    refine Goes.pre (fun t kt => XS.iloadN X0.here hx rfl (hb hby d7_0) rfl kt) ?_
    show Goes p e below s _ _ _ (s₁.setTop (mkF m 1 #[.val (.ref a1), .val (.int (3 : Int32)), .val (.int (4 : Int32)), .unset, .unset, .unset, .unset] [(.int (3 : Int32))]))
    refine Goes.pre (fun t kt => XS.istoreN X0.here hx rfl (hb hby d7_1) rfl (l' := #[.val (.ref a1), .val (.int (3 : Int32)), .val (.int (4 : Int32)), .val (.int (3 : Int32)), .unset, .unset, .unset]) rfl kt) ?_
    show Goes p e below s _ _ _ (s₁.setTop (mkF m 2 #[.val (.ref a1), .val (.int (3 : Int32)), .val (.int (4 : Int32)), .val (.int (3 : Int32)), .unset, .unset, .unset] []))
    refine Goes.pre (fun t kt => XS.iloadN X0.here hx rfl (hb hby d7_2) rfl kt) ?_
    show Goes p e below s _ _ _ (s₁.setTop (mkF m 3 #[.val (.ref a1), .val (.int (3 : Int32)), .val (.int (4 : Int32)), .val (.int (3 : Int32)), .unset, .unset, .unset] [(.int (4 : Int32))]))
    refine Goes.pre (fun t kt => XS.iconst X0.here hx rfl (hb hby d7_3) kt) ?_
    show Goes p e below s _ _ _ (s₁.setTop (mkF m 4 #[.val (.ref a1), .val (.int (3 : Int32)), .val (.int (4 : Int32)), .val (.int (3 : Int32)), .unset, .unset, .unset] [(.int (1 : Int32)), (.int (4 : Int32))]))
    refine Goes.pre (fun t kt => XS.isub X0.here hx rfl (hb hby d7_4) rfl kt) ?_
    show Goes p e below s _ _ _ (s₁.setTop (mkF m 5 #[.val (.ref a1), .val (.int (3 : Int32)), .val (.int (4 : Int32)), .val (.int (3 : Int32)), .unset, .unset, .unset] [(.int (3 : Int32))]))
    refine Goes.pre (fun t kt => XS.istore X0.here hx rfl (hb hby d7_5) rfl (l' := #[.val (.ref a1), .val (.int (3 : Int32)), .val (.int (4 : Int32)), .val (.int (3 : Int32)), .val (.int (3 : Int32)), .unset, .unset]) rfl kt) ?_
    show Goes p e below s _ _ _ (s₁.setTop (mkF m 7 #[.val (.ref a1), .val (.int (3 : Int32)), .val (.int (4 : Int32)), .val (.int (3 : Int32)), .val (.int (3 : Int32)), .unset, .unset] []))
    refine Goes.pre (fun t kt => XS.iloadN X0.here hx rfl (hb hby d7_7) rfl kt) ?_
    show Goes p e below s _ _ _ (s₁.setTop (mkF m 8 #[.val (.ref a1), .val (.int (3 : Int32)), .val (.int (4 : Int32)), .val (.int (3 : Int32)), .val (.int (3 : Int32)), .unset, .unset] [(.int (3 : Int32))]))
    refine Goes.pre (fun t kt => XS.iload X0.here hx rfl (hb hby d7_8) rfl kt) ?_
    show Goes p e below s _ _ _ (s₁.setTop (mkF m 10 #[.val (.ref a1), .val (.int (3 : Int32)), .val (.int (4 : Int32)), .val (.int (3 : Int32)), .val (.int (3 : Int32)), .unset, .unset] [(.int (3 : Int32)), (.int (3 : Int32))]))
    refine Goes.pre (fun t kt => XS.icmpYes X0.here hx rfl (pc0 := 10) (pc' := 52) rfl (hb hby d7_10) rfl (Jvm.Free.XT.ii_ge_t ((by decide))) (by decide) (by decide) kt) ?_
    show Goes p e below s _ _ _ (s₁.setTop (mkF m 52 #[.val (.ref a1), .val (.int (3 : Int32)), .val (.int (4 : Int32)), .val (.int (3 : Int32)), .val (.int (3 : Int32)), .unset, .unset] []))
    have qe117 : own_e (3 : Int32) (4 : Int32) (0 : Int32) w0 w1 w2 w3 = w0 := by simp [own_e, own_pick]
    have qe118 : own_e (3 : Int32) (4 : Int32) (1 : Int32) w0 w1 w2 w3 = w1 := by simp [own_e, own_pick]
    have qe119 : own_e (3 : Int32) (4 : Int32) (2 : Int32) w0 w1 w2 w3 = w2 := by simp [own_e, own_pick]
    have qe120 : own_e (3 : Int32) (4 : Int32) (3 : Int32) w0 w1 w2 w3 = w3 := by simp [own_e, own_pick]
    refine Goes.ret X0 none (fun _ => rfl) (BodyLoose.notSynchronized Bd) (by decide) (by decide) (fun fs hr => X0.returnOut hx Bd.returns (hb hby d7_52) hr) ?_
    show Q_rm7 Z a1 (3 : Int32) (4 : Int32) it kd w0 w1 w2 w3 h0 n0 _ s₁.heap _
    rw [e0]
    exact ⟨rfl, N0, K0, (by rw [qe117, qe118, qe119, qe120]; exact pf_V_it)⟩
  · show Goes p e below s _ _ _ (s₁.setTop (mkF m 0 #[.val (.ref a1), .val (.int (4 : Int32)), .val (.int (4 : Int32)), .unset, .unset, .unset, .unset] []))
    refine Goes.pre (fun t kt => XS.iloadN X0.here hx rfl (hb hby d7_0) rfl kt) ?_
    show Goes p e below s _ _ _ (s₁.setTop (mkF m 1 #[.val (.ref a1), .val (.int (4 : Int32)), .val (.int (4 : Int32)), .unset, .unset, .unset, .unset] [(.int (4 : Int32))]))
    refine Goes.pre (fun t kt => XS.istoreN X0.here hx rfl (hb hby d7_1) rfl (l' := #[.val (.ref a1), .val (.int (4 : Int32)), .val (.int (4 : Int32)), .val (.int (4 : Int32)), .unset, .unset, .unset]) rfl kt) ?_
    show Goes p e below s _ _ _ (s₁.setTop (mkF m 2 #[.val (.ref a1), .val (.int (4 : Int32)), .val (.int (4 : Int32)), .val (.int (4 : Int32)), .unset, .unset, .unset] []))
    refine Goes.pre (fun t kt => XS.iloadN X0.here hx rfl (hb hby d7_2) rfl kt) ?_
    show Goes p e below s _ _ _ (s₁.setTop (mkF m 3 #[.val (.ref a1), .val (.int (4 : Int32)), .val (.int (4 : Int32)), .val (.int (4 : Int32)), .unset, .unset, .unset] [(.int (4 : Int32))]))
    refine Goes.pre (fun t kt => XS.iconst X0.here hx rfl (hb hby d7_3) kt) ?_
    show Goes p e below s _ _ _ (s₁.setTop (mkF m 4 #[.val (.ref a1), .val (.int (4 : Int32)), .val (.int (4 : Int32)), .val (.int (4 : Int32)), .unset, .unset, .unset] [(.int (1 : Int32)), (.int (4 : Int32))]))
    refine Goes.pre (fun t kt => XS.isub X0.here hx rfl (hb hby d7_4) rfl kt) ?_
    show Goes p e below s _ _ _ (s₁.setTop (mkF m 5 #[.val (.ref a1), .val (.int (4 : Int32)), .val (.int (4 : Int32)), .val (.int (4 : Int32)), .unset, .unset, .unset] [(.int (3 : Int32))]))
    refine Goes.pre (fun t kt => XS.istore X0.here hx rfl (hb hby d7_5) rfl (l' := #[.val (.ref a1), .val (.int (4 : Int32)), .val (.int (4 : Int32)), .val (.int (4 : Int32)), .val (.int (3 : Int32)), .unset, .unset]) rfl kt) ?_
    show Goes p e below s _ _ _ (s₁.setTop (mkF m 7 #[.val (.ref a1), .val (.int (4 : Int32)), .val (.int (4 : Int32)), .val (.int (4 : Int32)), .val (.int (3 : Int32)), .unset, .unset] []))
    refine Goes.pre (fun t kt => XS.iloadN X0.here hx rfl (hb hby d7_7) rfl kt) ?_
    show Goes p e below s _ _ _ (s₁.setTop (mkF m 8 #[.val (.ref a1), .val (.int (4 : Int32)), .val (.int (4 : Int32)), .val (.int (4 : Int32)), .val (.int (3 : Int32)), .unset, .unset] [(.int (4 : Int32))]))
    refine Goes.pre (fun t kt => XS.iload X0.here hx rfl (hb hby d7_8) rfl kt) ?_
    show Goes p e below s _ _ _ (s₁.setTop (mkF m 10 #[.val (.ref a1), .val (.int (4 : Int32)), .val (.int (4 : Int32)), .val (.int (4 : Int32)), .val (.int (3 : Int32)), .unset, .unset] [(.int (3 : Int32)), (.int (4 : Int32))]))
    refine Goes.pre (fun t kt => XS.icmpYes X0.here hx rfl (pc0 := 10) (pc' := 52) rfl (hb hby d7_10) rfl (Jvm.Free.XT.ii_ge_t ((by decide))) (by decide) (by decide) kt) ?_
    show Goes p e below s _ _ _ (s₁.setTop (mkF m 52 #[.val (.ref a1), .val (.int (4 : Int32)), .val (.int (4 : Int32)), .val (.int (4 : Int32)), .val (.int (3 : Int32)), .unset, .unset] []))
    have qe121 : own_e (4 : Int32) (4 : Int32) (0 : Int32) w0 w1 w2 w3 = w0 := by simp [own_e, own_pick]
    have qe122 : own_e (4 : Int32) (4 : Int32) (1 : Int32) w0 w1 w2 w3 = w1 := by simp [own_e, own_pick]
    have qe123 : own_e (4 : Int32) (4 : Int32) (2 : Int32) w0 w1 w2 w3 = w2 := by simp [own_e, own_pick]
    have qe124 : own_e (4 : Int32) (4 : Int32) (3 : Int32) w0 w1 w2 w3 = w3 := by simp [own_e, own_pick]
    refine Goes.ret X0 none (fun _ => rfl) (BodyLoose.notSynchronized Bd) (by decide) (by decide) (fun fs hr => X0.returnOut hx Bd.returns (hb hby d7_52) hr) ?_
    show Q_rm7 Z a1 (4 : Int32) (4 : Int32) it kd w0 w1 w2 w3 h0 n0 _ s₁.heap _
    rw [e0]
    exact ⟨rfl, N0, K0, (by rw [qe121, qe122, qe123, qe124]; exact pf_V_it)⟩
theorem d10_0 : decode jdk_117_method_9_code 0 = .ok (.aload_n 0, 1) := by decide +kernel
theorem d10_1 : decode jdk_117_method_9_code 1 = .ok (.invokespecial 113, 3) := by decide +kernel
theorem d10_4 : decode jdk_117_method_9_code 4 = .ok (.aload_n 0, 1) := by decide +kernel
theorem d10_5 : decode jdk_117_method_9_code 5 = .ok (.dload_n 1, 1) := by decide +kernel
theorem d10_6 : decode jdk_117_method_9_code 6 = .ok (.putfield 118, 3) := by decide +kernel
theorem d10_9 : decode jdk_117_method_9_code 9 = .ok (.return_, 1) := by decide +kernel
theorem pn_4 : plainName "java/lang/Double" = true := by first | (simp [plainName, overriddenIn]; done) | decide +kernel
def Q_rm10 (Z : State) (a1 : Addr) (dd : UInt64) (h0 : Heap) (n0 : Nat) (v : Option Value) (h : Heap) (L : List Loc) : Prop := v = none ∧ Fr n0 L ∧ Keep h0 h [a1] ∧ (Fld Z h a1 "java/lang/Double" "value" "D" (.double dd))
theorem ef_rm10 (m : MethodId) (a1 : Addr) (dd : UInt64) : entryFrame m #[(.ref a1), (.double dd)] 3 = mkF m 0 #[.val (.ref a1), .val (.double dd), .second] [] := by first | (simp [entryFrame, mkF, argsToLocals, Value.category]; done) | rfl
set_option maxRecDepth 65536 in
set_option maxHeartbeats 40000000 in
theorem rm10 (l : Launch) (Z : State) (a0 : Array Value) (hw : ∀ d ∈ tables_1, d.before a0 Z = true) (ws : List Jvm.Cond) (a1 : Addr) (dd : UInt64) (h0 : Heap) (n0 : Nat) (Z0 : n0 ≤ h0.size) (pf_E_a1 : Exa Z h0 a1 "java/lang/Double") (pf_G_a1 : n0 ≤ a1) (pf_F_a1_java_lang_Double_value : Fld Z h0 a1 "java/lang/Double" "value" "D" (.double (0 : UInt64))) :
    MetFree l (⟨"java/lang/Double", "<init>", "(D)V"⟩ : MethodName) (head1 (Jvm.Cond.code (⟨"java/lang/Double", "<init>", "(D)V"⟩ : MethodName) jdk_117_method_9_code 3 none :: ws) ({ frames := 2, cells := 0, slots := 0, locals := 24 } : Room)) (fun a U => a = #[(.ref a1), (.double dd)] ∧ Z.Warmed39 U.vm ∧ U.heap = h0) (fun _ _ _ _ _ => True) (fun _ U o U' => ∃ v L, o = .returned v ∧ Q_rm10 Z a1 dd h0 n0 v U'.heap L ∧ FrameEnd U o U' L ({ frames := 2, cells := 0, slots := 0, locals := 24 } : Room).cells ({ frames := 2, cells := 0, slots := 0, locals := 24 } : Room).slots) := by
  refine MetFree.of_bodySF (plainFor_of_name pn_4) hisR ?_
  intro p e s m args below meth c s₁ Bd hml0 hP hK
  obtain ⟨rfl, hZ, hh⟩ := hP
  have hx := Bd.exec
  have hby := Bd.bytes
  have hml : c.maxLocals = 3 := hml0
  have hown : s.vm.findClass "java/lang/Double" = some m.cls := findClass_of_methodNamed Bd.named
  have hnm := (name_of_methodNamed Bd.named Bd.method).1
  have X0 : Stand p l e ({ frames := 2, cells := 0, slots := 0, locals := 24 } : Room) s m #[(.ref a1), (.double dd)] below meth c s₁ [] 0 0 := Stand.of_body Bd
  have e0 : s₁.heap = h0 := by rw [← hh, Bd.state]; rfl
  have N0 := Fr.nil n0
  have K0 := Keep.refl h0 [a1]
  show Goes p e below s (Q_rm10 Z a1 dd h0 n0) ({ frames := 2, cells := 0, slots := 0, locals := 24 } : Room).cells ({ frames := 2, cells := 0, slots := 0, locals := 24 } : Room).slots (s₁.setTop (entryFrame m #[(.ref a1), (.double dd)] 3))
  refine Goes.pre (fun t kt => castTop (ef_rm10 m a1 dd) kt) ?_
  show Goes p e below s _ _ _ (s₁.setTop (mkF m 0 #[.val (.ref a1), .val (.double dd), .second] []))
  refine Goes.pre (fun t kt => XS.aloadN X0.here hx rfl (hb hby d10_0) rfl rfl kt) ?_
  show Goes p e below s _ _ _ (s₁.setTop (mkF m 1 #[.val (.ref a1), .val (.double dd), .second] [(.ref a1)]))
  obtain ⟨_, _, ⟨T1, L1, k1, n1⟩, -, X1, ⟨Lc1, hQ1, l1, y1, z1⟩, st1⟩ := X0.specialBack hx (y := (⟨"java/lang/Number", "<init>", "()V"⟩ : MethodName)) rfl hown (mvT hZ (hw _ (List.mem_of_getElem? (i := 50) rfl))) (mvT hZ (hw _ (List.mem_of_getElem? (i := 51) rfl))) (mvT hZ (hw _ (List.mem_of_getElem? (i := 55) rfl))) (by decide) (backOf (W := 0) (rm11 l Z a0 hw [] a1 h0 n0 Z0 ) hZ (hw _ (List.mem_of_getElem? (i := 55) rfl)) (hw _ (List.mem_of_getElem? (i := 54) rfl)) (by decide) (by decide)) (g := (mkF m 1 #[.val (.ref a1), .val (.double dd), .second] [(.ref a1)])) rfl (by rw [hml]; rfl) (Steps.refl _) (a := a1) (argsL := []) (rest := []) (lenOf pd_2 rfl) rfl (by show 2 * 0 + _ ≤ _; exact Nat.le_of_eq rfl) (hb hby d10_1) (fun _ _ => ⟨rfl, e0, (by decide : 0 + 0 ≤ _), (by decide : 0 + 0 ≤ _)⟩)
  dsimp only [Pt.U, Pt.locs, Pt.cells, Pt.slots] at X1 l1 y1 z1 st1 hQ1
  rw [l1, y1, z1] at X1
  obtain ⟨rfl, Nq1, eq1⟩ := hQ1
  refine Goes.run st1 ?_
  have N1 := Fr.app N0 Nq1
  show Goes p e below s _ _ _ (T1.setTop (mkF m 4 #[.val (.ref a1), .val (.double dd), .second] []))
  refine Goes.pre (fun t kt => XS.aloadN X1.here hx rfl (hb hby d10_4) rfl rfl kt) ?_
  show Goes p e below s _ _ _ (T1.setTop (mkF m 5 #[.val (.ref a1), .val (.double dd), .second] [(.ref a1)]))
  refine Goes.pre (fun t kt => XS.dloadN X1.here hx rfl (hb hby d10_5) rfl kt) ?_
  show Goes p e below s _ _ _ (T1.setTop (mkF m 6 #[.val (.ref a1), .val (.double dd), .second] [(.double dd), (.ref a1)]))
  obtain ⟨T2, h2, X2, e2, W2, st2⟩ := putF X1 hx hZ hown (host := "") (Or.inl (hw _ (List.mem_of_getElem? (i := 57) rfl))) Via.refl eq1 pf_F_a1_java_lang_Double_value pf_E_a1 (Or.inr ⟨(hw _ (List.mem_of_getElem? (i := 58) rfl)), rfl, hnm⟩) (hw _ (List.mem_of_getElem? (i := 45) rfl)) (ty := .double) (by decide) rfl rfl (g := (mkF m 6 #[.val (.ref a1), .val (.double dd), .second] [(.double dd), (.ref a1)])) rfl rfl (hb hby d10_6)
  refine Goes.pre st2 ?_
  have Z2 : n0 ≤ h2.size := Nat.le_trans Z0 (Keep.of_wr W2).1
  have N2 := Fr.snoc X2 N1 pf_G_a1
  have K2 := K0.wr W2 (Or.inl (List.mem_of_getElem? (i := 0) rfl))
  have Fw2 : Fld Z h2 a1 "java/lang/Double" "value" "D" (.double dd) := pf_F_a1_java_lang_Double_value.same W2
  show Goes p e below s _ _ _ (T2.setTop (mkF m 9 #[.val (.ref a1), .val (.double dd), .second] []))
  refine Goes.ret X2 none (fun _ => rfl) (BodyLoose.notSynchronized Bd) (by decide) (by decide) (fun fs hr => X2.returnOut hx Bd.returns (hb hby d10_9) hr) ?_
  show Q_rm10 Z a1 dd h0 n0 _ T2.heap _
  rw [e2]
  exact ⟨rfl, N2, K2, Fw2⟩
theorem d9_0 : decode jdk_117_method_4_code 0 = .ok (.new 1, 3) := by decide +kernel
theorem d9_3 : decode jdk_117_method_4_code 3 = .ok (.dup, 1) := by decide +kernel
theorem d9_4 : decode jdk_117_method_4_code 4 = .ok (.dload_n 0, 1) := by decide +kernel
theorem d9_5 : decode jdk_117_method_4_code 5 = .ok (.invokespecial 105, 3) := by decide +kernel
theorem pd_5 : parseMethodDescriptor "(D)V" = some ⟨[.double], none⟩ := by decide +kernel
theorem d9_8 : decode jdk_117_method_4_code 8 = .ok (.areturn, 1) := by decide +kernel
def Q_rm9 (Z : State) (dd : UInt64) (h0 : Heap) (n0 : Nat) (v : Option Value) (h : Heap) (L : List Loc) : Prop := ∃ r : Addr, v = some (.ref r) ∧ Fr n0 L ∧ Keep h0 h [] ∧ (h0.size ≤ r) ∧ (n0 ≤ r) ∧ (Exa Z h r "java/lang/Double") ∧ (Fld Z h r "java/lang/Double" "value" "D" (.double dd))
theorem ef_rm9 (m : MethodId) (dd : UInt64) : entryFrame m #[(.double dd)] 2 = mkF m 0 #[.val (.double dd), .second] [] := by first | (simp [entryFrame, mkF, argsToLocals, Value.category]; done) | rfl
set_option maxRecDepth 65536 in
set_option maxHeartbeats 40000000 in
theorem rm9 (l : Launch) (Z : State) (a0 : Array Value) (hw : ∀ d ∈ tables_1, d.before a0 Z = true) (ws : List Jvm.Cond) (dd : UInt64) (h0 : Heap) (n0 : Nat) (Z0 : n0 ≤ h0.size) :
    MetFree l (⟨"java/lang/Double", "valueOf", "(D)Ljava/lang/Double;"⟩ : MethodName) (head1 (Jvm.Cond.code (⟨"java/lang/Double", "valueOf", "(D)Ljava/lang/Double;"⟩ : MethodName) jdk_117_method_4_code 2 (some (.object "java/lang/Double")) :: ws) ({ frames := 3, cells := 1, slots := 1, locals := 39 } : Room)) (fun a U => a = #[(.double dd)] ∧ Z.Warmed39 U.vm ∧ U.heap = h0) (fun _ _ _ _ _ => True) (fun _ U o U' => ∃ v L, o = .returned v ∧ Q_rm9 Z dd h0 n0 v U'.heap L ∧ FrameEnd U o U' L ({ frames := 3, cells := 1, slots := 1, locals := 39 } : Room).cells ({ frames := 3, cells := 1, slots := 1, locals := 39 } : Room).slots) := by
  refine MetFree.of_bodySF (plainFor_of_name pn_4) hisR ?_
  intro p e s m args below meth c s₁ Bd hml0 hP hK
  obtain ⟨rfl, hZ, hh⟩ := hP
  have hx := Bd.exec
  have hby := Bd.bytes
  have hml : c.maxLocals = 2 := hml0
  have hown : s.vm.findClass "java/lang/Double" = some m.cls := findClass_of_methodNamed Bd.named
  have hnm := (name_of_methodNamed Bd.named Bd.method).1
  have X0 : Stand p l e ({ frames := 3, cells := 1, slots := 1, locals := 39 } : Room) s m #[(.double dd)] below meth c s₁ [] 0 0 := Stand.of_body Bd
  have e0 : s₁.heap = h0 := by rw [← hh, Bd.state]; rfl
  have N0 := Fr.nil n0
  have K0 := Keep.refl h0 []
  show Goes p e below s (Q_rm9 Z dd h0 n0) ({ frames := 3, cells := 1, slots := 1, locals := 39 } : Room).cells ({ frames := 3, cells := 1, slots := 1, locals := 39 } : Room).slots (s₁.setTop (entryFrame m #[(.double dd)] 2))
  refine Goes.pre (fun t kt => castTop (ef_rm9 m dd) kt) ?_
  show Goes p e below s _ _ _ (s₁.setTop (mkF m 0 #[.val (.double dd), .second] []))
  obtain ⟨T1, h1, X1, e1, E1, A1, D1, U1, st1⟩ := newO X0 hx hZ hown (hw _ (List.mem_of_getElem? (i := 44) rfl)) (hw _ (List.mem_of_getElem? (i := 45) rfl)) (hw _ (List.mem_of_getElem? (i := 42) rfl)) e0 (g := (mkF m 0 #[.val (.double dd), .second] [])) rfl (hb hby d9_0) (by decide) (by decide)
  obtain ⟨b1, g1⟩ : ∃ z, z = h0.size := ⟨_, rfl⟩
  rw [← g1] at A1 D1 U1 st1
  have gg1 : n0 ≤ b1 := Nat.le_trans Z0 (Nat.le_of_eq g1.symm)
  have sz1 : h0.size ≤ b1 := Nat.le_trans K0.1 (Nat.le_of_eq g1.symm)
  have Z1 : n0 ≤ h1.size := Nat.le_trans Z0 E1.1
  have K1 := K0.ext E1
  refine Goes.pre st1 ?_
  have Fn1_58 : Fld Z h1 b1 "java/lang/Double" "value" "D" (.double (0 : UInt64)) := D1 (Or.inr (hw _ (List.mem_of_getElem? (i := 58) rfl))) (ty := .double) (by decide)
  show Goes p e below s _ _ _ (T1.setTop (mkF m 3 #[.val (.double dd), .second] [(.ref b1)]))
  refine Goes.pre (fun t kt => XS.dup X1.here hx rfl (hb hby d9_3) rfl rfl kt) ?_
  show Goes p e below s _ _ _ (T1.setTop (mkF m 4 #[.val (.double dd), .second] [(.ref b1), (.ref b1)]))
  refine Goes.pre (fun t kt => XS.dloadN X1.here hx rfl (hb hby d9_4) rfl kt) ?_
  show Goes p e below s _ _ _ (T1.setTop (mkF m 5 #[.val (.double dd), .second] [(.double dd), (.ref b1), (.ref b1)]))
  obtain ⟨_, _, ⟨T2, L2, k2, n2⟩, -, X2, ⟨Lc2, hQ2, l2, y2, z2⟩, st2⟩ := X1.specialBack hx (y := (⟨"java/lang/Double", "<init>", "(D)V"⟩ : MethodName)) rfl hown (mvT hZ (hw _ (List.mem_of_getElem? (i := 46) rfl))) (mvT hZ (hw _ (List.mem_of_getElem? (i := 47) rfl))) (mvT hZ (hw _ (List.mem_of_getElem? (i := 49) rfl))) (by decide) (backOf (W := 1) (rm10 l Z a0 hw [] b1 dd h1 n0 Z1 A1 gg1 Fn1_58) hZ (hw _ (List.mem_of_getElem? (i := 49) rfl)) (hw _ (List.mem_of_getElem? (i := 42) rfl)) (by decide) (by decide)) (g := (mkF m 5 #[.val (.double dd), .second] [(.double dd), (.ref b1), (.ref b1)])) rfl (by rw [hml]; rfl) (Steps.refl _) (a := b1) (argsL := [(.double dd)]) (rest := [(.ref b1)]) (lenOf pd_5 rfl) rfl (by show 2 * 0 + _ ≤ _; exact Nat.le_of_eq rfl) (hb hby d9_5) (fun _ _ => ⟨rfl, e1, (by decide : 1 + 0 ≤ _), (by decide : 1 + 0 ≤ _)⟩)
  dsimp only [Pt.U, Pt.locs, Pt.cells, Pt.slots] at X2 l2 y2 z2 st2 hQ2
  rw [l2, y2, z2] at X2
  obtain ⟨rfl, Nq2, Kq2, pq2_0⟩ := hQ2
  refine Goes.run st2 ?_
  have N2 := Fr.app N0 Nq2
  obtain ⟨h2, e2⟩ : ∃ z, T2.heap = z := ⟨_, rfl⟩
  rw [e2] at Kq2 pq2_0
  have Z2 : n0 ≤ h2.size := Nat.le_trans Z1 Kq2.1
  have K2 := K1.trans Kq2 (allS (P := fun x => x ∈ [] ∨ h0.size ≤ x) (Or.inr sz1) all0)
  show Goes p e below s _ _ _ (T2.setTop (mkF m 8 #[.val (.double dd), .second] [(.ref b1)]))
  have fc3 : Exa Z h2 b1 "java/lang/Double" := (A1.keep Kq2)
  refine Goes.ret X2 (some (.ref b1)) (fun h => by rw [Bd.returns] at h; cases h) (BodyLoose.notSynchronized Bd) (by decide) (by decide) (fun fs hr => retOut X2 hx (t := (.object "java/lang/Double")) Bd.returns rfl (Or.inr (Or.inr (Or.inr (Or.inr ⟨rfl, rfl, rfl⟩)))) (hb hby d9_8) hr) ?_
  show Q_rm9 Z dd h0 n0 _ T2.heap _
  rw [e2]
  exact ⟨b1, rfl, N2, K2, sz1, gg1, fc3, pq2_0⟩
theorem d8_0 : decode prog_9_method_6_code 0 = .ok (.aload_n 0, 1) := by decide +kernel
theorem d8_1 : decode prog_9_method_6_code 1 = .ok (.getfield 7, 3) := by decide +kernel
theorem d8_4 : decode prog_9_method_6_code 4 = .ok (.iload_n 1, 1) := by decide +kernel
theorem d8_5 : decode prog_9_method_6_code 5 = .ok (.daload, 1) := by decide +kernel
theorem d8_6 : decode prog_9_method_6_code 6 = .ok (.invokestatic 31, 3) := by decide +kernel
theorem pd_6 : parseMethodDescriptor "(D)Ljava/lang/Double;" = some ⟨[.double], some (.object "java/lang/Double")⟩ := by decide +kernel
theorem d8_9 : decode prog_9_method_6_code 9 = .ok (.areturn, 1) := by decide +kernel
def Q_rm8_0 (Z : State) (a1 : Addr) (it : Addr) (kd : ClassId) (w0 : UInt64) (w1 : UInt64) (w2 : UInt64) (w3 : UInt64) (h0 : Heap) (n0 : Nat) (v : Option Value) (h : Heap) (L : List Loc) : Prop := ∃ r : Addr, v = some (.ref r) ∧ Fr n0 L ∧ Keep h0 h [] ∧ (h0.size ≤ r) ∧ (n0 ≤ r) ∧ (Exa Z h r "java/lang/Double") ∧ (Fld Z h r "java/lang/Double" "value" "D" (.double w0))
theorem ef_rm8_0 (m : MethodId) (a1 : Addr) : entryFrame m #[(.ref a1), (.int (0 : Int32))] 2 = mkF m 0 #[.val (.ref a1), .val (.int (0 : Int32))] [] := by first | (simp [entryFrame, mkF, argsToLocals, Value.category]; done) | rfl
set_option maxRecDepth 65536 in
set_option maxHeartbeats 40000000 in
theorem rm8_0 (l : Launch) (Z : State) (a0 : Array Value) (hw : ∀ d ∈ tables_1, d.before a0 Z = true) (ws : List Jvm.Cond) (a1 : Addr) (it : Addr) (kd : ClassId) (w0 : UInt64) (w1 : UInt64) (w2 : UInt64) (w3 : UInt64) (h0 : Heap) (n0 : Nat) (Z0 : n0 ≤ h0.size) (pf_F_a1_com_example_quantail_quantail_NumberArray_items : Fld Z h0 a1 "com/example/quantail/quantail/NumberArray" "items" "[D" (.ref it)) (pf_V_it : Arv Z h0 it kd .double (4 : Int32) [(.double w0), (.double w1), (.double w2), (.double w3)] (.double (0 : UInt64))) :
    MetFree l (⟨"com/example/quantail/quantail/NumberArray", "get", "(I)Ljava/lang/Double;"⟩ : MethodName) (head1 (Jvm.Cond.code (⟨"com/example/quantail/quantail/NumberArray", "get", "(I)Ljava/lang/Double;"⟩ : MethodName) prog_9_method_6_code 2 (some (.object "java/lang/Double")) :: ws) ({ frames := 4, cells := 1, slots := 1, locals := 52 } : Room)) (fun a U => a = #[(.ref a1), (.int (0 : Int32))] ∧ Z.Warmed39 U.vm ∧ U.heap = h0) (fun _ _ _ _ _ => True) (fun _ U o U' => ∃ v L, o = .returned v ∧ Q_rm8_0 Z a1 it kd w0 w1 w2 w3 h0 n0 v U'.heap L ∧ FrameEnd U o U' L ({ frames := 4, cells := 1, slots := 1, locals := 52 } : Room).cells ({ frames := 4, cells := 1, slots := 1, locals := 52 } : Room).slots) := by
  refine MetFree.of_bodySF (plainFor_of_name pn_3) hisR ?_
  intro p e s m args below meth c s₁ Bd hml0 hP hK
  obtain ⟨rfl, hZ, hh⟩ := hP
  have hx := Bd.exec
  have hby := Bd.bytes
  have hml : c.maxLocals = 2 := hml0
  have hown : s.vm.findClass "com/example/quantail/quantail/NumberArray" = some m.cls := findClass_of_methodNamed Bd.named
  have hnm := (name_of_methodNamed Bd.named Bd.method).1
  have X0 : Stand p l e ({ frames := 4, cells := 1, slots := 1, locals := 52 } : Room) s m #[(.ref a1), (.int (0 : Int32))] below meth c s₁ [] 0 0 := Stand.of_body Bd
  have e0 : s₁.heap = h0 := by rw [← hh, Bd.state]; rfl
  have N0 := Fr.nil n0
  have K0 := Keep.refl h0 []
  show Goes p e below s (Q_rm8_0 Z a1 it kd w0 w1 w2 w3 h0 n0) ({ frames := 4, cells := 1, slots := 1, locals := 52 } : Room).cells ({ frames := 4, cells := 1, slots := 1, locals := 52 } : Room).slots (s₁.setTop (entryFrame m #[(.ref a1), (.int (0 : Int32))] 2))
  refine Goes.pre (fun t kt => castTop (ef_rm8_0 m a1) kt) ?_
  show Goes p e below s _ _ _ (s₁.setTop (mkF m 0 #[.val (.ref a1), .val (.int (0 : Int32))] []))
  refine Goes.pre (fun t kt => XS.aloadN X0.here hx rfl (hb hby d8_0) rfl rfl kt) ?_
  show Goes p e below s _ _ _ (s₁.setTop (mkF m 1 #[.val (.ref a1), .val (.int (0 : Int32))] [(.ref a1)]))
  obtain ⟨T1, X1, e1, st1⟩ := getF X0 hx hZ hown (host := "") (Or.inl (hw _ (List.mem_of_getElem? (i := 23) rfl))) Via.refl e0 pf_F_a1_com_example_quantail_quantail_NumberArray_items (g := (mkF m 1 #[.val (.ref a1), .val (.int (0 : Int32))] [(.ref a1)])) rfl rfl (hb hby d8_1)
  refine Goes.pre st1 ?_
  show Goes p e below s _ _ _ (T1.setTop (mkF m 4 #[.val (.ref a1), .val (.int (0 : Int32))] [(.ref it)]))
  refine Goes.pre (fun t kt => XS.iloadN X1.here hx rfl (hb hby d8_4) rfl kt) ?_
  show Goes p e below s _ _ _ (T1.setTop (mkF m 5 #[.val (.ref a1), .val (.int (0 : Int32))] [(.int (0 : Int32)), (.ref it)]))
  obtain ⟨cl2, Ar2, aq2, aS2, aN2, aH2, aG2⟩ := pf_V_it
  have V2 : Arv Z h0 it kd .double (4 : Int32) [(.double w0), (.double w1), (.double w2), (.double w3)] (.double (0 : UInt64)) := ⟨cl2, Ar2, aq2, aS2, aN2, aH2, aG2⟩
  have hin2 : ¬ ((0 : Int32) < 0 ∨ cl2.slots.size ≤ ((0 : Int32)).toNatClampNeg) := inb_of aS2 ⟨by decide, by decide⟩
  have hat2 : cl2.slots[((0 : Int32)).toNatClampNeg]? = some (.double w0) := aH2.at hin2 rfl
  refine Goes.pre (X1.daload hx (j := (0 : Int32)) (v := (.double w0)) (by rw [e1]; exact Ar2.1) (State.isArrayOf_alike hZ.alike Ar2.2.1) Ar2.2.2 hin2 hat2 (g := (mkF m 5 #[.val (.ref a1), .val (.int (0 : Int32))] [(.int (0 : Int32)), (.ref it)])) rfl rfl (hb hby d8_5)) ?_
  show Goes p e below s _ _ _ (T1.setTop (mkF m 6 #[.val (.ref a1), .val (.int (0 : Int32))] [(.double w0)]))
  obtain ⟨_, _, ⟨T3, L3, k3, n3⟩, -, X3, ⟨Lc3, hQ3, l3, y3, z3⟩, st3⟩ := Jvm.LawKit.callS X1 hx (y := (⟨"java/lang/Double", "valueOf", "(D)Ljava/lang/Double;"⟩ : MethodName)) hown (mvT hZ (hw _ (List.mem_of_getElem? (i := 40) rfl))) (mvT hZ (hw _ (List.mem_of_getElem? (i := 41) rfl))) (mvT hZ (hw _ (List.mem_of_getElem? (i := 42) rfl))) (mvT hZ (hw _ (List.mem_of_getElem? (i := 43) rfl))) (by decide) (backOf (W := 0) (rm9 l Z a0 hw [] w0 h0 n0 Z0 ) hZ (hw _ (List.mem_of_getElem? (i := 43) rfl)) (hw _ (List.mem_of_getElem? (i := 42) rfl)) (by decide) (by decide)) (g := (mkF m 6 #[.val (.ref a1), .val (.int (0 : Int32))] [(.double w0)])) rfl (by rw [hml]; rfl) (argsL := [(.double w0)]) (rest := []) (lenOf pd_6 rfl) rfl (by show 2 * 0 + _ ≤ _; exact Nat.le_of_eq rfl) (hb hby d8_6) (fun _ _ => ⟨rfl, e1, (by decide : 0 + 1 ≤ _), (by decide : 0 + 1 ≤ _)⟩)
  dsimp only [Pt.U, Pt.locs, Pt.cells, Pt.slots] at X3 l3 y3 z3 st3 hQ3
  rw [l3, y3, z3] at X3
  obtain ⟨r_3, rfl, Nq3, Kq3, pq3_0, pq3_1, pq3_2, pq3_3⟩ := hQ3
  refine Goes.pre st3 ?_
  have N3 := Fr.app N0 Nq3
  obtain ⟨h3, e3⟩ : ∃ z, T3.heap = z := ⟨_, rfl⟩
  rw [e3] at Kq3 pq3_2 pq3_3
  have ltit_3_r_3 : it < r_3 := Nat.lt_of_lt_of_le V2.lt pq3_0
  have szq3_r_3 : h0.size ≤ r_3 := Nat.le_trans K0.1 pq3_0
  have Z3 : n0 ≤ h3.size := Nat.le_trans Z0 Kq3.1
  have K3 := K0.trans Kq3 all0
  show Goes p e below s _ _ _ (T3.setTop (mkF m 9 #[.val (.ref a1), .val (.int (0 : Int32))] [(.ref r_3)]))
  refine Goes.ret X3 (some (.ref r_3)) (fun h => by rw [Bd.returns] at h; cases h) (BodyLoose.notSynchronized Bd) (by decide) (by decide) (fun fs hr => retOut X3 hx (t := (.object "java/lang/Double")) Bd.returns rfl (Or.inr (Or.inr (Or.inr (Or.inr ⟨rfl, rfl, rfl⟩)))) (hb hby d8_9) hr) ?_
  show Q_rm8_0 Z a1 it kd w0 w1 w2 w3 h0 n0 _ T3.heap _
  rw [e3]
  exact ⟨r_3, rfl, N3, K3, szq3_r_3, pq3_1, pq3_2, pq3_3⟩
def Q_rm8_1 (Z : State) (a1 : Addr) (it : Addr) (kd : ClassId) (w0 : UInt64) (w1 : UInt64) (w2 : UInt64) (w3 : UInt64) (h0 : Heap) (n0 : Nat) (v : Option Value) (h : Heap) (L : List Loc) : Prop := ∃ r : Addr, v = some (.ref r) ∧ Fr n0 L ∧ Keep h0 h [] ∧ (h0.size ≤ r) ∧ (n0 ≤ r) ∧ (Exa Z h r "java/lang/Double") ∧ (Fld Z h r "java/lang/Double" "value" "D" (.double w1))
theorem ef_rm8_1 (m : MethodId) (a1 : Addr) : entryFrame m #[(.ref a1), (.int (1 : Int32))] 2 = mkF m 0 #[.val (.ref a1), .val (.int (1 : Int32))] [] := by first | (simp [entryFrame, mkF, argsToLocals, Value.category]; done) | rfl
set_option maxRecDepth 65536 in
set_option maxHeartbeats 40000000 in
theorem rm8_1 (l : Launch) (Z : State) (a0 : Array Value) (hw : ∀ d ∈ tables_1, d.before a0 Z = true) (ws : List Jvm.Cond) (a1 : Addr) (it : Addr) (kd : ClassId) (w0 : UInt64) (w1 : UInt64) (w2 : UInt64) (w3 : UInt64) (h0 : Heap) (n0 : Nat) (Z0 : n0 ≤ h0.size) (pf_F_a1_com_example_quantail_quantail_NumberArray_items : Fld Z h0 a1 "com/example/quantail/quantail/NumberArray" "items" "[D" (.ref it)) (pf_V_it : Arv Z h0 it kd .double (4 : Int32) [(.double w0), (.double w1), (.double w2), (.double w3)] (.double (0 : UInt64))) :
    MetFree l (⟨"com/example/quantail/quantail/NumberArray", "get", "(I)Ljava/lang/Double;"⟩ : MethodName) (head1 (Jvm.Cond.code (⟨"com/example/quantail/quantail/NumberArray", "get", "(I)Ljava/lang/Double;"⟩ : MethodName) prog_9_method_6_code 2 (some (.object "java/lang/Double")) :: ws) ({ frames := 4, cells := 1, slots := 1, locals := 52 } : Room)) (fun a U => a = #[(.ref a1), (.int (1 : Int32))] ∧ Z.Warmed39 U.vm ∧ U.heap = h0) (fun _ _ _ _ _ => True) (fun _ U o U' => ∃ v L, o = .returned v ∧ Q_rm8_1 Z a1 it kd w0 w1 w2 w3 h0 n0 v U'.heap L ∧ FrameEnd U o U' L ({ frames := 4, cells := 1, slots := 1, locals := 52 } : Room).cells ({ frames := 4, cells := 1, slots := 1, locals := 52 } : Room).slots) := by
  refine MetFree.of_bodySF (plainFor_of_name pn_3) hisR ?_
  intro p e s m args below meth c s₁ Bd hml0 hP hK
  obtain ⟨rfl, hZ, hh⟩ := hP
  have hx := Bd.exec
  have hby := Bd.bytes
  have hml : c.maxLocals = 2 := hml0
  have hown : s.vm.findClass "com/example/quantail/quantail/NumberArray" = some m.cls := findClass_of_methodNamed Bd.named
  have hnm := (name_of_methodNamed Bd.named Bd.method).1
  have X0 : Stand p l e ({ frames := 4, cells := 1, slots := 1, locals := 52 } : Room) s m #[(.ref a1), (.int (1 : Int32))] below meth c s₁ [] 0 0 := Stand.of_body Bd
  have e0 : s₁.heap = h0 := by rw [← hh, Bd.state]; rfl
  have N0 := Fr.nil n0
  have K0 := Keep.refl h0 []
  show Goes p e below s (Q_rm8_1 Z a1 it kd w0 w1 w2 w3 h0 n0) ({ frames := 4, cells := 1, slots := 1, locals := 52 } : Room).cells ({ frames := 4, cells := 1, slots := 1, locals := 52 } : Room).slots (s₁.setTop (entryFrame m #[(.ref a1), (.int (1 : Int32))] 2))
  refine Goes.pre (fun t kt => castTop (ef_rm8_1 m a1) kt) ?_
  show Goes p e below s _ _ _ (s₁.setTop (mkF m 0 #[.val (.ref a1), .val (.int (1 : Int32))] []))
  refine Goes.pre (fun t kt => XS.aloadN X0.here hx rfl (hb hby d8_0) rfl rfl kt) ?_
  show Goes p e below s _ _ _ (s₁.setTop (mkF m 1 #[.val (.ref a1), .val (.int (1 : Int32))] [(.ref a1)]))
  obtain ⟨T1, X1, e1, st1⟩ := getF X0 hx hZ hown (host := "") (Or.inl (hw _ (List.mem_of_getElem? (i := 23) rfl))) Via.refl e0 pf_F_a1_com_example_quantail_quantail_NumberArray_items (g := (mkF m 1 #[.val (.ref a1), .val (.int (1 : Int32))] [(.ref a1)])) rfl rfl (hb hby d8_1)
  refine Goes.pre st1 ?_
  show Goes p e below s _ _ _ (T1.setTop (mkF m 4 #[.val (.ref a1), .val (.int (1 : Int32))] [(.ref it)]))
  refine Goes.pre (fun t kt => XS.iloadN X1.here hx rfl (hb hby d8_4) rfl kt) ?_
  show Goes p e below s _ _ _ (T1.setTop (mkF m 5 #[.val (.ref a1), .val (.int (1 : Int32))] [(.int (1 : Int32)), (.ref it)]))
  obtain ⟨cl2, Ar2, aq2, aS2, aN2, aH2, aG2⟩ := pf_V_it
  have V2 : Arv Z h0 it kd .double (4 : Int32) [(.double w0), (.double w1), (.double w2), (.double w3)] (.double (0 : UInt64)) := ⟨cl2, Ar2, aq2, aS2, aN2, aH2, aG2⟩
  have hin2 : ¬ ((1 : Int32) < 0 ∨ cl2.slots.size ≤ ((1 : Int32)).toNatClampNeg) := inb_of aS2 ⟨by decide, by decide⟩
  have hat2 : cl2.slots[((1 : Int32)).toNatClampNeg]? = some (.double w1) := aH2.at hin2 rfl
  refine Goes.pre (X1.daload hx (j := (1 : Int32)) (v := (.double w1)) (by rw [e1]; exact Ar2.1) (State.isArrayOf_alike hZ.alike Ar2.2.1) Ar2.2.2 hin2 hat2 (g := (mkF m 5 #[.val (.ref a1), .val (.int (1 : Int32))] [(.int (1 : Int32)), (.ref it)])) rfl rfl (hb hby d8_5)) ?_
  show Goes p e below s _ _ _ (T1.setTop (mkF m 6 #[.val (.ref a1), .val (.int (1 : Int32))] [(.double w1)]))
  obtain ⟨_, _, ⟨T3, L3, k3, n3⟩, -, X3, ⟨Lc3, hQ3, l3, y3, z3⟩, st3⟩ := Jvm.LawKit.callS X1 hx (y := (⟨"java/lang/Double", "valueOf", "(D)Ljava/lang/Double;"⟩ : MethodName)) hown (mvT hZ (hw _ (List.mem_of_getElem? (i := 40) rfl))) (mvT hZ (hw _ (List.mem_of_getElem? (i := 41) rfl))) (mvT hZ (hw _ (List.mem_of_getElem? (i := 42) rfl))) (mvT hZ (hw _ (List.mem_of_getElem? (i := 43) rfl))) (by decide) (backOf (W := 0) (rm9 l Z a0 hw [] w1 h0 n0 Z0 ) hZ (hw _ (List.mem_of_getElem? (i := 43) rfl)) (hw _ (List.mem_of_getElem? (i := 42) rfl)) (by decide) (by decide)) (g := (mkF m 6 #[.val (.ref a1), .val (.int (1 : Int32))] [(.double w1)])) rfl (by rw [hml]; rfl) (argsL := [(.double w1)]) (rest := []) (lenOf pd_6 rfl) rfl (by show 2 * 0 + _ ≤ _; exact Nat.le_of_eq rfl) (hb hby d8_6) (fun _ _ => ⟨rfl, e1, (by decide : 0 + 1 ≤ _), (by decide : 0 + 1 ≤ _)⟩)
  dsimp only [Pt.U, Pt.locs, Pt.cells, Pt.slots] at X3 l3 y3 z3 st3 hQ3
  rw [l3, y3, z3] at X3
  obtain ⟨r_3, rfl, Nq3, Kq3, pq3_0, pq3_1, pq3_2, pq3_3⟩ := hQ3
  refine Goes.pre st3 ?_
  have N3 := Fr.app N0 Nq3
  obtain ⟨h3, e3⟩ : ∃ z, T3.heap = z := ⟨_, rfl⟩
  rw [e3] at Kq3 pq3_2 pq3_3
  have ltit_3_r_3 : it < r_3 := Nat.lt_of_lt_of_le V2.lt pq3_0
  have szq3_r_3 : h0.size ≤ r_3 := Nat.le_trans K0.1 pq3_0
  have Z3 : n0 ≤ h3.size := Nat.le_trans Z0 Kq3.1
  have K3 := K0.trans Kq3 all0
  show Goes p e below s _ _ _ (T3.setTop (mkF m 9 #[.val (.ref a1), .val (.int (1 : Int32))] [(.ref r_3)]))
  refine Goes.ret X3 (some (.ref r_3)) (fun h => by rw [Bd.returns] at h; cases h) (BodyLoose.notSynchronized Bd) (by decide) (by decide) (fun fs hr => retOut X3 hx (t := (.object "java/lang/Double")) Bd.returns rfl (Or.inr (Or.inr (Or.inr (Or.inr ⟨rfl, rfl, rfl⟩)))) (hb hby d8_9) hr) ?_
  show Q_rm8_1 Z a1 it kd w0 w1 w2 w3 h0 n0 _ T3.heap _
  rw [e3]
  exact ⟨r_3, rfl, N3, K3, szq3_r_3, pq3_1, pq3_2, pq3_3⟩
def Q_rm8_2 (Z : State) (a1 : Addr) (it : Addr) (kd : ClassId) (w0 : UInt64) (w1 : UInt64) (w2 : UInt64) (w3 : UInt64) (h0 : Heap) (n0 : Nat) (v : Option Value) (h : Heap) (L : List Loc) : Prop := ∃ r : Addr, v = some (.ref r) ∧ Fr n0 L ∧ Keep h0 h [] ∧ (h0.size ≤ r) ∧ (n0 ≤ r) ∧ (Exa Z h r "java/lang/Double") ∧ (Fld Z h r "java/lang/Double" "value" "D" (.double w2))
theorem ef_rm8_2 (m : MethodId) (a1 : Addr) : entryFrame m #[(.ref a1), (.int (2 : Int32))] 2 = mkF m 0 #[.val (.ref a1), .val (.int (2 : Int32))] [] := by first | (simp [entryFrame, mkF, argsToLocals, Value.category]; done) | rfl
set_option maxRecDepth 65536 in
set_option maxHeartbeats 40000000 in
theorem rm8_2 (l : Launch) (Z : State) (a0 : Array Value) (hw : ∀ d ∈ tables_1, d.before a0 Z = true) (ws : List Jvm.Cond) (a1 : Addr) (it : Addr) (kd : ClassId) (w0 : UInt64) (w1 : UInt64) (w2 : UInt64) (w3 : UInt64) (h0 : Heap) (n0 : Nat) (Z0 : n0 ≤ h0.size) (pf_F_a1_com_example_quantail_quantail_NumberArray_items : Fld Z h0 a1 "com/example/quantail/quantail/NumberArray" "items" "[D" (.ref it)) (pf_V_it : Arv Z h0 it kd .double (4 : Int32) [(.double w0), (.double w1), (.double w2), (.double w3)] (.double (0 : UInt64))) :
    MetFree l (⟨"com/example/quantail/quantail/NumberArray", "get", "(I)Ljava/lang/Double;"⟩ : MethodName) (head1 (Jvm.Cond.code (⟨"com/example/quantail/quantail/NumberArray", "get", "(I)Ljava/lang/Double;"⟩ : MethodName) prog_9_method_6_code 2 (some (.object "java/lang/Double")) :: ws) ({ frames := 4, cells := 1, slots := 1, locals := 52 } : Room)) (fun a U => a = #[(.ref a1), (.int (2 : Int32))] ∧ Z.Warmed39 U.vm ∧ U.heap = h0) (fun _ _ _ _ _ => True) (fun _ U o U' => ∃ v L, o = .returned v ∧ Q_rm8_2 Z a1 it kd w0 w1 w2 w3 h0 n0 v U'.heap L ∧ FrameEnd U o U' L ({ frames := 4, cells := 1, slots := 1, locals := 52 } : Room).cells ({ frames := 4, cells := 1, slots := 1, locals := 52 } : Room).slots) := by
  refine MetFree.of_bodySF (plainFor_of_name pn_3) hisR ?_
  intro p e s m args below meth c s₁ Bd hml0 hP hK
  obtain ⟨rfl, hZ, hh⟩ := hP
  have hx := Bd.exec
  have hby := Bd.bytes
  have hml : c.maxLocals = 2 := hml0
  have hown : s.vm.findClass "com/example/quantail/quantail/NumberArray" = some m.cls := findClass_of_methodNamed Bd.named
  have hnm := (name_of_methodNamed Bd.named Bd.method).1
  have X0 : Stand p l e ({ frames := 4, cells := 1, slots := 1, locals := 52 } : Room) s m #[(.ref a1), (.int (2 : Int32))] below meth c s₁ [] 0 0 := Stand.of_body Bd
  have e0 : s₁.heap = h0 := by rw [← hh, Bd.state]; rfl
  have N0 := Fr.nil n0
  have K0 := Keep.refl h0 []
  show Goes p e below s (Q_rm8_2 Z a1 it kd w0 w1 w2 w3 h0 n0) ({ frames := 4, cells := 1, slots := 1, locals := 52 } : Room).cells ({ frames := 4, cells := 1, slots := 1, locals := 52 } : Room).slots (s₁.setTop (entryFrame m #[(.ref a1), (.int (2 : Int32))] 2))
  refine Goes.pre (fun t kt => castTop (ef_rm8_2 m a1) kt) ?_
  show Goes p e below s _ _ _ (s₁.setTop (mkF m 0 #[.val (.ref a1), .val (.int (2 : Int32))] []))
  refine Goes.pre (fun t kt => XS.aloadN X0.here hx rfl (hb hby d8_0) rfl rfl kt) ?_
  show Goes p e below s _ _ _ (s₁.setTop (mkF m 1 #[.val (.ref a1), .val (.int (2 : Int32))] [(.ref a1)]))
  obtain ⟨T1, X1, e1, st1⟩ := getF X0 hx hZ hown (host := "") (Or.inl (hw _ (List.mem_of_getElem? (i := 23) rfl))) Via.refl e0 pf_F_a1_com_example_quantail_quantail_NumberArray_items (g := (mkF m 1 #[.val (.ref a1), .val (.int (2 : Int32))] [(.ref a1)])) rfl rfl (hb hby d8_1)
  refine Goes.pre st1 ?_
  show Goes p e below s _ _ _ (T1.setTop (mkF m 4 #[.val (.ref a1), .val (.int (2 : Int32))] [(.ref it)]))
  refine Goes.pre (fun t kt => XS.iloadN X1.here hx rfl (hb hby d8_4) rfl kt) ?_
  show Goes p e below s _ _ _ (T1.setTop (mkF m 5 #[.val (.ref a1), .val (.int (2 : Int32))] [(.int (2 : Int32)), (.ref it)]))
  obtain ⟨cl2, Ar2, aq2, aS2, aN2, aH2, aG2⟩ := pf_V_it
  have V2 : Arv Z h0 it kd .double (4 : Int32) [(.double w0), (.double w1), (.double w2), (.double w3)] (.double (0 : UInt64)) := ⟨cl2, Ar2, aq2, aS2, aN2, aH2, aG2⟩
  have hin2 : ¬ ((2 : Int32) < 0 ∨ cl2.slots.size ≤ ((2 : Int32)).toNatClampNeg) := inb_of aS2 ⟨by decide, by decide⟩
  have hat2 : cl2.slots[((2 : Int32)).toNatClampNeg]? = some (.double w2) := aH2.at hin2 rfl
  refine Goes.pre (X1.daload hx (j := (2 : Int32)) (v := (.double w2)) (by rw [e1]; exact Ar2.1) (State.isArrayOf_alike hZ.alike Ar2.2.1) Ar2.2.2 hin2 hat2 (g := (mkF m 5 #[.val (.ref a1), .val (.int (2 : Int32))] [(.int (2 : Int32)), (.ref it)])) rfl rfl (hb hby d8_5)) ?_
  show Goes p e below s _ _ _ (T1.setTop (mkF m 6 #[.val (.ref a1), .val (.int (2 : Int32))] [(.double w2)]))
  obtain ⟨_, _, ⟨T3, L3, k3, n3⟩, -, X3, ⟨Lc3, hQ3, l3, y3, z3⟩, st3⟩ := Jvm.LawKit.callS X1 hx (y := (⟨"java/lang/Double", "valueOf", "(D)Ljava/lang/Double;"⟩ : MethodName)) hown (mvT hZ (hw _ (List.mem_of_getElem? (i := 40) rfl))) (mvT hZ (hw _ (List.mem_of_getElem? (i := 41) rfl))) (mvT hZ (hw _ (List.mem_of_getElem? (i := 42) rfl))) (mvT hZ (hw _ (List.mem_of_getElem? (i := 43) rfl))) (by decide) (backOf (W := 0) (rm9 l Z a0 hw [] w2 h0 n0 Z0 ) hZ (hw _ (List.mem_of_getElem? (i := 43) rfl)) (hw _ (List.mem_of_getElem? (i := 42) rfl)) (by decide) (by decide)) (g := (mkF m 6 #[.val (.ref a1), .val (.int (2 : Int32))] [(.double w2)])) rfl (by rw [hml]; rfl) (argsL := [(.double w2)]) (rest := []) (lenOf pd_6 rfl) rfl (by show 2 * 0 + _ ≤ _; exact Nat.le_of_eq rfl) (hb hby d8_6) (fun _ _ => ⟨rfl, e1, (by decide : 0 + 1 ≤ _), (by decide : 0 + 1 ≤ _)⟩)
  dsimp only [Pt.U, Pt.locs, Pt.cells, Pt.slots] at X3 l3 y3 z3 st3 hQ3
  rw [l3, y3, z3] at X3
  obtain ⟨r_3, rfl, Nq3, Kq3, pq3_0, pq3_1, pq3_2, pq3_3⟩ := hQ3
  refine Goes.pre st3 ?_
  have N3 := Fr.app N0 Nq3
  obtain ⟨h3, e3⟩ : ∃ z, T3.heap = z := ⟨_, rfl⟩
  rw [e3] at Kq3 pq3_2 pq3_3
  have ltit_3_r_3 : it < r_3 := Nat.lt_of_lt_of_le V2.lt pq3_0
  have szq3_r_3 : h0.size ≤ r_3 := Nat.le_trans K0.1 pq3_0
  have Z3 : n0 ≤ h3.size := Nat.le_trans Z0 Kq3.1
  have K3 := K0.trans Kq3 all0
  show Goes p e below s _ _ _ (T3.setTop (mkF m 9 #[.val (.ref a1), .val (.int (2 : Int32))] [(.ref r_3)]))
  refine Goes.ret X3 (some (.ref r_3)) (fun h => by rw [Bd.returns] at h; cases h) (BodyLoose.notSynchronized Bd) (by decide) (by decide) (fun fs hr => retOut X3 hx (t := (.object "java/lang/Double")) Bd.returns rfl (Or.inr (Or.inr (Or.inr (Or.inr ⟨rfl, rfl, rfl⟩)))) (hb hby d8_9) hr) ?_
  show Q_rm8_2 Z a1 it kd w0 w1 w2 w3 h0 n0 _ T3.heap _
  rw [e3]
  exact ⟨r_3, rfl, N3, K3, szq3_r_3, pq3_1, pq3_2, pq3_3⟩
def Q_rm8_3 (Z : State) (a1 : Addr) (it : Addr) (kd : ClassId) (w0 : UInt64) (w1 : UInt64) (w2 : UInt64) (w3 : UInt64) (h0 : Heap) (n0 : Nat) (v : Option Value) (h : Heap) (L : List Loc) : Prop := ∃ r : Addr, v = some (.ref r) ∧ Fr n0 L ∧ Keep h0 h [] ∧ (h0.size ≤ r) ∧ (n0 ≤ r) ∧ (Exa Z h r "java/lang/Double") ∧ (Fld Z h r "java/lang/Double" "value" "D" (.double w3))
theorem ef_rm8_3 (m : MethodId) (a1 : Addr) : entryFrame m #[(.ref a1), (.int (3 : Int32))] 2 = mkF m 0 #[.val (.ref a1), .val (.int (3 : Int32))] [] := by first | (simp [entryFrame, mkF, argsToLocals, Value.category]; done) | rfl
set_option maxRecDepth 65536 in
set_option maxHeartbeats 40000000 in
theorem rm8_3 (l : Launch) (Z : State) (a0 : Array Value) (hw : ∀ d ∈ tables_1, d.before a0 Z = true) (ws : List Jvm.Cond) (a1 : Addr) (it : Addr) (kd : ClassId) (w0 : UInt64) (w1 : UInt64) (w2 : UInt64) (w3 : UInt64) (h0 : Heap) (n0 : Nat) (Z0 : n0 ≤ h0.size) (pf_F_a1_com_example_quantail_quantail_NumberArray_items : Fld Z h0 a1 "com/example/quantail/quantail/NumberArray" "items" "[D" (.ref it)) (pf_V_it : Arv Z h0 it kd .double (4 : Int32) [(.double w0), (.double w1), (.double w2), (.double w3)] (.double (0 : UInt64))) :
    MetFree l (⟨"com/example/quantail/quantail/NumberArray", "get", "(I)Ljava/lang/Double;"⟩ : MethodName) (head1 (Jvm.Cond.code (⟨"com/example/quantail/quantail/NumberArray", "get", "(I)Ljava/lang/Double;"⟩ : MethodName) prog_9_method_6_code 2 (some (.object "java/lang/Double")) :: ws) ({ frames := 4, cells := 1, slots := 1, locals := 52 } : Room)) (fun a U => a = #[(.ref a1), (.int (3 : Int32))] ∧ Z.Warmed39 U.vm ∧ U.heap = h0) (fun _ _ _ _ _ => True) (fun _ U o U' => ∃ v L, o = .returned v ∧ Q_rm8_3 Z a1 it kd w0 w1 w2 w3 h0 n0 v U'.heap L ∧ FrameEnd U o U' L ({ frames := 4, cells := 1, slots := 1, locals := 52 } : Room).cells ({ frames := 4, cells := 1, slots := 1, locals := 52 } : Room).slots) := by
  refine MetFree.of_bodySF (plainFor_of_name pn_3) hisR ?_
  intro p e s m args below meth c s₁ Bd hml0 hP hK
  obtain ⟨rfl, hZ, hh⟩ := hP
  have hx := Bd.exec
  have hby := Bd.bytes
  have hml : c.maxLocals = 2 := hml0
  have hown : s.vm.findClass "com/example/quantail/quantail/NumberArray" = some m.cls := findClass_of_methodNamed Bd.named
  have hnm := (name_of_methodNamed Bd.named Bd.method).1
  have X0 : Stand p l e ({ frames := 4, cells := 1, slots := 1, locals := 52 } : Room) s m #[(.ref a1), (.int (3 : Int32))] below meth c s₁ [] 0 0 := Stand.of_body Bd
  have e0 : s₁.heap = h0 := by rw [← hh, Bd.state]; rfl
  have N0 := Fr.nil n0
  have K0 := Keep.refl h0 []
  show Goes p e below s (Q_rm8_3 Z a1 it kd w0 w1 w2 w3 h0 n0) ({ frames := 4, cells := 1, slots := 1, locals := 52 } : Room).cells ({ frames := 4, cells := 1, slots := 1, locals := 52 } : Room).slots (s₁.setTop (entryFrame m #[(.ref a1), (.int (3 : Int32))] 2))
  refine Goes.pre (fun t kt => castTop (ef_rm8_3 m a1) kt) ?_
  show Goes p e below s _ _ _ (s₁.setTop (mkF m 0 #[.val (.ref a1), .val (.int (3 : Int32))] []))
  refine Goes.pre (fun t kt => XS.aloadN X0.here hx rfl (hb hby d8_0) rfl rfl kt) ?_
  show Goes p e below s _ _ _ (s₁.setTop (mkF m 1 #[.val (.ref a1), .val (.int (3 : Int32))] [(.ref a1)]))
  obtain ⟨T1, X1, e1, st1⟩ := getF X0 hx hZ hown (host := "") (Or.inl (hw _ (List.mem_of_getElem? (i := 23) rfl))) Via.refl e0 pf_F_a1_com_example_quantail_quantail_NumberArray_items (g := (mkF m 1 #[.val (.ref a1), .val (.int (3 : Int32))] [(.ref a1)])) rfl rfl (hb hby d8_1)
  refine Goes.pre st1 ?_
  show Goes p e below s _ _ _ (T1.setTop (mkF m 4 #[.val (.ref a1), .val (.int (3 : Int32))] [(.ref it)]))
  refine Goes.pre (fun t kt => XS.iloadN X1.here hx rfl (hb hby d8_4) rfl kt) ?_
  show Goes p e below s _ _ _ (T1.setTop (mkF m 5 #[.val (.ref a1), .val (.int (3 : Int32))] [(.int (3 : Int32)), (.ref it)]))
  obtain ⟨cl2, Ar2, aq2, aS2, aN2, aH2, aG2⟩ := pf_V_it
  have V2 : Arv Z h0 it kd .double (4 : Int32) [(.double w0), (.double w1), (.double w2), (.double w3)] (.double (0 : UInt64)) := ⟨cl2, Ar2, aq2, aS2, aN2, aH2, aG2⟩
  have hin2 : ¬ ((3 : Int32) < 0 ∨ cl2.slots.size ≤ ((3 : Int32)).toNatClampNeg) := inb_of aS2 ⟨by decide, by decide⟩
  have hat2 : cl2.slots[((3 : Int32)).toNatClampNeg]? = some (.double w3) := aH2.at hin2 rfl
  refine Goes.pre (X1.daload hx (j := (3 : Int32)) (v := (.double w3)) (by rw [e1]; exact Ar2.1) (State.isArrayOf_alike hZ.alike Ar2.2.1) Ar2.2.2 hin2 hat2 (g := (mkF m 5 #[.val (.ref a1), .val (.int (3 : Int32))] [(.int (3 : Int32)), (.ref it)])) rfl rfl (hb hby d8_5)) ?_
  show Goes p e below s _ _ _ (T1.setTop (mkF m 6 #[.val (.ref a1), .val (.int (3 : Int32))] [(.double w3)]))
  obtain ⟨_, _, ⟨T3, L3, k3, n3⟩, -, X3, ⟨Lc3, hQ3, l3, y3, z3⟩, st3⟩ := Jvm.LawKit.callS X1 hx (y := (⟨"java/lang/Double", "valueOf", "(D)Ljava/lang/Double;"⟩ : MethodName)) hown (mvT hZ (hw _ (List.mem_of_getElem? (i := 40) rfl))) (mvT hZ (hw _ (List.mem_of_getElem? (i := 41) rfl))) (mvT hZ (hw _ (List.mem_of_getElem? (i := 42) rfl))) (mvT hZ (hw _ (List.mem_of_getElem? (i := 43) rfl))) (by decide) (backOf (W := 0) (rm9 l Z a0 hw [] w3 h0 n0 Z0 ) hZ (hw _ (List.mem_of_getElem? (i := 43) rfl)) (hw _ (List.mem_of_getElem? (i := 42) rfl)) (by decide) (by decide)) (g := (mkF m 6 #[.val (.ref a1), .val (.int (3 : Int32))] [(.double w3)])) rfl (by rw [hml]; rfl) (argsL := [(.double w3)]) (rest := []) (lenOf pd_6 rfl) rfl (by show 2 * 0 + _ ≤ _; exact Nat.le_of_eq rfl) (hb hby d8_6) (fun _ _ => ⟨rfl, e1, (by decide : 0 + 1 ≤ _), (by decide : 0 + 1 ≤ _)⟩)
  dsimp only [Pt.U, Pt.locs, Pt.cells, Pt.slots] at X3 l3 y3 z3 st3 hQ3
  rw [l3, y3, z3] at X3
  obtain ⟨r_3, rfl, Nq3, Kq3, pq3_0, pq3_1, pq3_2, pq3_3⟩ := hQ3
  refine Goes.pre st3 ?_
  have N3 := Fr.app N0 Nq3
  obtain ⟨h3, e3⟩ : ∃ z, T3.heap = z := ⟨_, rfl⟩
  rw [e3] at Kq3 pq3_2 pq3_3
  have ltit_3_r_3 : it < r_3 := Nat.lt_of_lt_of_le V2.lt pq3_0
  have szq3_r_3 : h0.size ≤ r_3 := Nat.le_trans K0.1 pq3_0
  have Z3 : n0 ≤ h3.size := Nat.le_trans Z0 Kq3.1
  have K3 := K0.trans Kq3 all0
  show Goes p e below s _ _ _ (T3.setTop (mkF m 9 #[.val (.ref a1), .val (.int (3 : Int32))] [(.ref r_3)]))
  refine Goes.ret X3 (some (.ref r_3)) (fun h => by rw [Bd.returns] at h; cases h) (BodyLoose.notSynchronized Bd) (by decide) (by decide) (fun fs hr => retOut X3 hx (t := (.object "java/lang/Double")) Bd.returns rfl (Or.inr (Or.inr (Or.inr (Or.inr ⟨rfl, rfl, rfl⟩)))) (hb hby d8_9) hr) ?_
  show Q_rm8_3 Z a1 it kd w0 w1 w2 w3 h0 n0 _ T3.heap _
  rw [e3]
  exact ⟨r_3, rfl, N3, K3, szq3_r_3, pq3_1, pq3_2, pq3_3⟩
theorem d12_0 : decode jdk_117_method_19_code 0 = .ok (.aload_n 0, 1) := by decide +kernel
theorem d12_1 : decode jdk_117_method_19_code 1 = .ok (.getfield 118, 3) := by decide +kernel
theorem d12_4 : decode jdk_117_method_19_code 4 = .ok (.dreturn, 1) := by decide +kernel
def Q_rm12 (Z : State) (a1 : Addr) (dd : UInt64) (h0 : Heap) (n0 : Nat) (v : Option Value) (h : Heap) (L : List Loc) : Prop := v = some (.double dd) ∧ Fr n0 L ∧ h = h0
theorem ef_rm12 (m : MethodId) (a1 : Addr) : entryFrame m #[(.ref a1)] 1 = mkF m 0 #[.val (.ref a1)] [] := by first | (simp [entryFrame, mkF, argsToLocals, Value.category]; done) | rfl
set_option maxRecDepth 65536 in
set_option maxHeartbeats 40000000 in
theorem rm12 (l : Launch) (Z : State) (a0 : Array Value) (hw : ∀ d ∈ tables_1, d.before a0 Z = true) (ws : List Jvm.Cond) (a1 : Addr) (dd : UInt64) (h0 : Heap) (n0 : Nat) (Z0 : n0 ≤ h0.size) (pf_F_a1_java_lang_Double_value : Fld Z h0 a1 "java/lang/Double" "value" "D" (.double dd)) :
    MetFree l (⟨"java/lang/Double", "doubleValue", "()D"⟩ : MethodName) (head1 (Jvm.Cond.code (⟨"java/lang/Double", "doubleValue", "()D"⟩ : MethodName) jdk_117_method_19_code 1 (some .double) :: ws) ({ frames := 0, cells := 0, slots := 0, locals := 0 } : Room)) (fun a U => a = #[(.ref a1)] ∧ Z.Warmed39 U.vm ∧ U.heap = h0) (fun _ _ _ _ _ => True) (fun _ U o U' => ∃ v L, o = .returned v ∧ Q_rm12 Z a1 dd h0 n0 v U'.heap L ∧ FrameEnd U o U' L ({ frames := 0, cells := 0, slots := 0, locals := 0 } : Room).cells ({ frames := 0, cells := 0, slots := 0, locals := 0 } : Room).slots) := by
  refine MetFree.of_bodySF (plainFor_of_name pn_4) hisR ?_
  intro p e s m args below meth c s₁ Bd hml0 hP hK
  obtain ⟨rfl, hZ, hh⟩ := hP
  have hx := Bd.exec
  have hby := Bd.bytes
  have hml : c.maxLocals = 1 := hml0
  have hown : s.vm.findClass "java/lang/Double" = some m.cls := findClass_of_methodNamed Bd.named
  have hnm := (name_of_methodNamed Bd.named Bd.method).1
  have X0 : Stand p l e ({ frames := 0, cells := 0, slots := 0, locals := 0 } : Room) s m #[(.ref a1)] below meth c s₁ [] 0 0 := Stand.of_body Bd
  have e0 : s₁.heap = h0 := by rw [← hh, Bd.state]; rfl
  have N0 := Fr.nil n0
  show Goes p e below s (Q_rm12 Z a1 dd h0 n0) ({ frames := 0, cells := 0, slots := 0, locals := 0 } : Room).cells ({ frames := 0, cells := 0, slots := 0, locals := 0 } : Room).slots (s₁.setTop (entryFrame m #[(.ref a1)] 1))
  refine Goes.pre (fun t kt => castTop (ef_rm12 m a1) kt) ?_
  show Goes p e below s _ _ _ (s₁.setTop (mkF m 0 #[.val (.ref a1)] []))
  refine Goes.pre (fun t kt => XS.aloadN X0.here hx rfl (hb hby d12_0) rfl rfl kt) ?_
  show Goes p e below s _ _ _ (s₁.setTop (mkF m 1 #[.val (.ref a1)] [(.ref a1)]))
  obtain ⟨T1, X1, e1, st1⟩ := getF X0 hx hZ hown (host := "") (Or.inl (hw _ (List.mem_of_getElem? (i := 57) rfl))) Via.refl e0 pf_F_a1_java_lang_Double_value (g := (mkF m 1 #[.val (.ref a1)] [(.ref a1)])) rfl rfl (hb hby d12_1)
  refine Goes.pre st1 ?_
  show Goes p e below s _ _ _ (T1.setTop (mkF m 4 #[.val (.ref a1)] [(.double dd)]))
  refine Goes.ret X1 (some (.double dd)) (fun h => by rw [Bd.returns] at h; cases h) (BodyLoose.notSynchronized Bd) (by decide) (by decide) (fun fs hr => retOut X1 hx (t := .double) Bd.returns rfl (Or.inr (Or.inr (Or.inl ⟨rfl, rfl, _, rfl⟩))) (hb hby d12_4) hr) ?_
  show Q_rm12 Z a1 dd h0 n0 _ T1.heap _
  rw [e1]
  exact ⟨rfl, N0, rfl⟩
theorem d13_0 : decode method_3_code 0 = .ok (.iload_n 1, 1) := by decide +kernel
theorem d13_1 : decode method_3_code 1 = .ok (.iload_n 3, 1) := by decide +kernel
theorem d13_2 : decode method_3_code 2 = .ok (.if_icmp .gt 18, 3) := by decide +kernel
theorem d13_5 : decode method_3_code 5 = .ok (.iload_n 3, 1) := by decide +kernel
theorem d13_6 : decode method_3_code 6 = .ok (.iload_n 2, 1) := by decide +kernel
theorem d13_7 : decode method_3_code 7 = .ok (.if_icmp .ge 13, 3) := by decide +kernel
theorem d13_20 : decode method_3_code 20 = .ok (.aload_n 0, 1) := by decide +kernel
theorem d13_21 : decode method_3_code 21 = .ok (.iload_n 3, 1) := by decide +kernel
theorem d13_22 : decode method_3_code 22 = .ok (.daload, 1) := by decide +kernel
theorem d13_23 : decode method_3_code 23 = .ok (.dreturn, 1) := by decide +kernel
theorem d13_10 : decode method_3_code 10 = .ok (.aload_n 0, 1) := by decide +kernel
theorem d13_11 : decode method_3_code 11 = .ok (.iload_n 1, 1) := by decide +kernel
theorem d13_12 : decode method_3_code 12 = .ok (.iload_n 2, 1) := by decide +kernel
theorem d13_13 : decode method_3_code 13 = .ok (.iadd, 1) := by decide +kernel
theorem d13_14 : decode method_3_code 14 = .ok (.iconst 1, 1) := by decide +kernel
theorem d13_15 : decode method_3_code 15 = .ok (.isub, 1) := by decide +kernel
theorem d13_16 : decode method_3_code 16 = .ok (.iload_n 3, 1) := by decide +kernel
theorem d13_17 : decode method_3_code 17 = .ok (.isub, 1) := by decide +kernel
theorem d13_18 : decode method_3_code 18 = .ok (.daload, 1) := by decide +kernel
theorem d13_19 : decode method_3_code 19 = .ok (.dreturn, 1) := by decide +kernel
theorem pn_7 : plainName "com/example/quantail/quantail/NumberArrayReversePinLaw" = true := by first | (simp [plainName, overriddenIn]; done) | decide +kernel
def Q_rm13_0 (Z : State) (it : Addr) (lo : Int32) (hi : Int32) (kd : ClassId) (w0 : UInt64) (w1 : UInt64) (w2 : UInt64) (w3 : UInt64) (h0 : Heap) (n0 : Nat) (v : Option Value) (h : Heap) (L : List Loc) : Prop := v = some (.double (own_e lo hi (0 : Int32) w0 w1 w2 w3)) ∧ Fr n0 L ∧ h = h0
theorem ef_rm13_0 (m : MethodId) (it : Addr) (lo : Int32) (hi : Int32) : entryFrame m #[(.ref it), (.int lo), (.int hi), (.int (0 : Int32))] 4 = mkF m 0 #[.val (.ref it), .val (.int lo), .val (.int hi), .val (.int (0 : Int32))] [] := by first | (simp [entryFrame, mkF, argsToLocals, Value.category]; done) | rfl
set_option maxRecDepth 65536 in
set_option maxHeartbeats 40000000 in
theorem rm13_0 (l : Launch) (Z : State) (a0 : Array Value) (hw : ∀ d ∈ tables_1, d.before a0 Z = true) (ws : List Jvm.Cond) (it : Addr) (lo : Int32) (hi : Int32) (kd : ClassId) (w0 : UInt64) (w1 : UInt64) (w2 : UInt64) (w3 : UInt64) (h0 : Heap) (n0 : Nat) (Z0 : n0 ≤ h0.size) (pf_V_it : Arv Z h0 it kd .double (4 : Int32) [(.double w0), (.double w1), (.double w2), (.double w3)] (.double (0 : UInt64))) (hok : own_ok lo hi) :
    MetFree l (⟨"com/example/quantail/quantail/NumberArrayReversePinLaw", "expected", "([DIII)D"⟩ : MethodName) (head1 (Jvm.Cond.code (⟨"com/example/quantail/quantail/NumberArrayReversePinLaw", "expected", "([DIII)D"⟩ : MethodName) method_3_code 4 (some .double) :: ws) ({ frames := 0, cells := 0, slots := 0, locals := 0 } : Room)) (fun a U => a = #[(.ref it), (.int lo), (.int hi), (.int (0 : Int32))] ∧ Z.Warmed39 U.vm ∧ U.heap = h0) (fun _ _ _ _ _ => True) (fun _ U o U' => ∃ v L, o = .returned v ∧ Q_rm13_0 Z it lo hi kd w0 w1 w2 w3 h0 n0 v U'.heap L ∧ FrameEnd U o U' L ({ frames := 0, cells := 0, slots := 0, locals := 0 } : Room).cells ({ frames := 0, cells := 0, slots := 0, locals := 0 } : Room).slots) := by
  refine MetFree.of_bodySF (plainFor_of_name pn_7) hisR ?_
  intro p e s m args below meth c s₁ Bd hml0 hP hK
  obtain ⟨rfl, hZ, hh⟩ := hP
  have hx := Bd.exec
  have hby := Bd.bytes
  have hml : c.maxLocals = 4 := hml0
  have hown : s.vm.findClass "com/example/quantail/quantail/NumberArrayReversePinLaw" = some m.cls := findClass_of_methodNamed Bd.named
  have hnm := (name_of_methodNamed Bd.named Bd.method).1
  have X0 : Stand p l e ({ frames := 0, cells := 0, slots := 0, locals := 0 } : Room) s m #[(.ref it), (.int lo), (.int hi), (.int (0 : Int32))] below meth c s₁ [] 0 0 := Stand.of_body Bd
  have e0 : s₁.heap = h0 := by rw [← hh, Bd.state]; rfl
  have N0 := Fr.nil n0
  show Goes p e below s (Q_rm13_0 Z it lo hi kd w0 w1 w2 w3 h0 n0) ({ frames := 0, cells := 0, slots := 0, locals := 0 } : Room).cells ({ frames := 0, cells := 0, slots := 0, locals := 0 } : Room).slots (s₁.setTop (entryFrame m #[(.ref it), (.int lo), (.int hi), (.int (0 : Int32))] 4))
  refine Goes.pre (fun t kt => castTop (ef_rm13_0 m it lo hi) kt) ?_
  show Goes p e below s _ _ _ (s₁.setTop (mkF m 0 #[.val (.ref it), .val (.int lo), .val (.int hi), .val (.int (0 : Int32))] []))
  rcases hok with ⟨rfl, rfl⟩ | ⟨rfl, rfl⟩ | ⟨rfl, rfl⟩ | ⟨rfl, rfl⟩ | ⟨rfl, rfl⟩ | ⟨rfl, rfl⟩ | ⟨rfl, rfl⟩ | ⟨rfl, rfl⟩ | ⟨rfl, rfl⟩ | ⟨rfl, rfl⟩ | ⟨rfl, rfl⟩ | ⟨rfl, rfl⟩ | ⟨rfl, rfl⟩ | ⟨rfl, rfl⟩ | ⟨rfl, rfl⟩
  · show Goes p e below s _ _ _ (s₁.setTop (mkF m 0 #[.val (.ref it), .val (.int (0 : Int32)), .val (.int (0 : Int32)), .val (.int (0 : Int32))] []))
    refine Goes.pre (fun t kt => XS.iloadN X0.here hx rfl (hb hby d13_0) rfl kt) ?_
    show Goes p e below s _ _ _ (s₁.setTop (mkF m 1 #[.val (.ref it), .val (.int (0 : Int32)), .val (.int (0 : Int32)), .val (.int (0 : Int32))] [(.int (0 : Int32))]))
    refine Goes.pre (fun t kt => XS.iloadN X0.here hx rfl (hb hby d13_1) rfl kt) ?_
    show Goes p e below s _ _ _ (s₁.setTop (mkF m 2 #[.val (.ref it), .val (.int (0 : Int32)), .val (.int (0 : Int32)), .val (.int (0 : Int32))] [(.int (0 : Int32)), (.int (0 : Int32))]))
    refine Goes.pre (fun t kt => XS.icmpNo X0.here hx rfl (hb hby d13_2) rfl (Jvm.Free.XT.ii_gt_f ((by decide))) kt) ?_
    show Goes p e below s _ _ _ (s₁.setTop (mkF m 5 #[.val (.ref it), .val (.int (0 : Int32)), .val (.int (0 : Int32)), .val (.int (0 : Int32))] []))
    refine Goes.pre (fun t kt => XS.iloadN X0.here hx rfl (hb hby d13_5) rfl kt) ?_
    show Goes p e below s _ _ _ (s₁.setTop (mkF m 6 #[.val (.ref it), .val (.int (0 : Int32)), .val (.int (0 : Int32)), .val (.int (0 : Int32))] [(.int (0 : Int32))]))
    refine Goes.pre (fun t kt => XS.iloadN X0.here hx rfl (hb hby d13_6) rfl kt) ?_
    show Goes p e below s _ _ _ (s₁.setTop (mkF m 7 #[.val (.ref it), .val (.int (0 : Int32)), .val (.int (0 : Int32)), .val (.int (0 : Int32))] [(.int (0 : Int32)), (.int (0 : Int32))]))
    refine Goes.pre (fun t kt => XS.icmpYes X0.here hx rfl (pc0 := 7) (pc' := 20) rfl (hb hby d13_7) rfl (Jvm.Free.XT.ii_ge_t ((by decide))) (by decide) (by decide) kt) ?_
    show Goes p e below s _ _ _ (s₁.setTop (mkF m 20 #[.val (.ref it), .val (.int (0 : Int32)), .val (.int (0 : Int32)), .val (.int (0 : Int32))] []))
    refine Goes.pre (fun t kt => XS.aloadN X0.here hx rfl (hb hby d13_20) rfl rfl kt) ?_
    show Goes p e below s _ _ _ (s₁.setTop (mkF m 21 #[.val (.ref it), .val (.int (0 : Int32)), .val (.int (0 : Int32)), .val (.int (0 : Int32))] [(.ref it)]))
    refine Goes.pre (fun t kt => XS.iloadN X0.here hx rfl (hb hby d13_21) rfl kt) ?_
    show Goes p e below s _ _ _ (s₁.setTop (mkF m 22 #[.val (.ref it), .val (.int (0 : Int32)), .val (.int (0 : Int32)), .val (.int (0 : Int32))] [(.int (0 : Int32)), (.ref it)]))
    obtain ⟨cl1, Ar1, aq1, aS1, aN1, aH1, aG1⟩ := pf_V_it
    have V1 : Arv Z h0 it kd .double (4 : Int32) [(.double w0), (.double w1), (.double w2), (.double w3)] (.double (0 : UInt64)) := ⟨cl1, Ar1, aq1, aS1, aN1, aH1, aG1⟩
    have hin1 : ¬ ((0 : Int32) < 0 ∨ cl1.slots.size ≤ ((0 : Int32)).toNatClampNeg) := inb_of aS1 ⟨by decide, by decide⟩
    have hat1 : cl1.slots[((0 : Int32)).toNatClampNeg]? = some (.double w0) := aH1.at hin1 rfl
    refine Goes.pre (X0.daload hx (j := (0 : Int32)) (v := (.double w0)) (by rw [e0]; exact Ar1.1) (State.isArrayOf_alike hZ.alike Ar1.2.1) Ar1.2.2 hin1 hat1 (g := (mkF m 22 #[.val (.ref it), .val (.int (0 : Int32)), .val (.int (0 : Int32)), .val (.int (0 : Int32))] [(.int (0 : Int32)), (.ref it)])) rfl rfl (hb hby d13_22)) ?_
    show Goes p e below s _ _ _ (s₁.setTop (mkF m 23 #[.val (.ref it), .val (.int (0 : Int32)), .val (.int (0 : Int32)), .val (.int (0 : Int32))] [(.double w0)]))
    refine Goes.ret X0 (some (.double w0)) (fun h => by rw [Bd.returns] at h; cases h) (BodyLoose.notSynchronized Bd) (by decide) (by decide) (fun fs hr => retOut X0 hx (t := .double) Bd.returns rfl (Or.inr (Or.inr (Or.inl ⟨rfl, rfl, _, rfl⟩))) (hb hby d13_23) hr) ?_
    show Q_rm13_0 Z it (0 : Int32) (0 : Int32) kd w0 w1 w2 w3 h0 n0 _ s₁.heap _
    rw [e0]
    exact ⟨(by rw [show own_e (0 : Int32) (0 : Int32) (0 : Int32) w0 w1 w2 w3 = w0 by simp [own_e, own_pick]]), N0, rfl⟩
  · show Goes p e below s _ _ _ (s₁.setTop (mkF m 0 #[.val (.ref it), .val (.int (0 : Int32)), .val (.int (1 : Int32)), .val (.int (0 : Int32))] []))
    refine Goes.pre (fun t kt => XS.iloadN X0.here hx rfl (hb hby d13_0) rfl kt) ?_
    show Goes p e below s _ _ _ (s₁.setTop (mkF m 1 #[.val (.ref it), .val (.int (0 : Int32)), .val (.int (1 : Int32)), .val (.int (0 : Int32))] [(.int (0 : Int32))]))
    refine Goes.pre (fun t kt => XS.iloadN X0.here hx rfl (hb hby d13_1) rfl kt) ?_
    show Goes p e below s _ _ _ (s₁.setTop (mkF m 2 #[.val (.ref it), .val (.int (0 : Int32)), .val (.int (1 : Int32)), .val (.int (0 : Int32))] [(.int (0 : Int32)), (.int (0 : Int32))]))
    refine Goes.pre (fun t kt => XS.icmpNo X0.here hx rfl (hb hby d13_2) rfl (Jvm.Free.XT.ii_gt_f ((by decide))) kt) ?_
    show Goes p e below s _ _ _ (s₁.setTop (mkF m 5 #[.val (.ref it), .val (.int (0 : Int32)), .val (.int (1 : Int32)), .val (.int (0 : Int32))] []))
    refine Goes.pre (fun t kt => XS.iloadN X0.here hx rfl (hb hby d13_5) rfl kt) ?_
    show Goes p e below s _ _ _ (s₁.setTop (mkF m 6 #[.val (.ref it), .val (.int (0 : Int32)), .val (.int (1 : Int32)), .val (.int (0 : Int32))] [(.int (0 : Int32))]))
    refine Goes.pre (fun t kt => XS.iloadN X0.here hx rfl (hb hby d13_6) rfl kt) ?_
    show Goes p e below s _ _ _ (s₁.setTop (mkF m 7 #[.val (.ref it), .val (.int (0 : Int32)), .val (.int (1 : Int32)), .val (.int (0 : Int32))] [(.int (1 : Int32)), (.int (0 : Int32))]))
    refine Goes.pre (fun t kt => XS.icmpNo X0.here hx rfl (hb hby d13_7) rfl (Jvm.Free.XT.ii_ge_f ((by decide))) kt) ?_
    show Goes p e below s _ _ _ (s₁.setTop (mkF m 10 #[.val (.ref it), .val (.int (0 : Int32)), .val (.int (1 : Int32)), .val (.int (0 : Int32))] []))
    refine Goes.pre (fun t kt => XS.aloadN X0.here hx rfl (hb hby d13_10) rfl rfl kt) ?_
    show Goes p e below s _ _ _ (s₁.setTop (mkF m 11 #[.val (.ref it), .val (.int (0 : Int32)), .val (.int (1 : Int32)), .val (.int (0 : Int32))] [(.ref it)]))
    refine Goes.pre (fun t kt => XS.iloadN X0.here hx rfl (hb hby d13_11) rfl kt) ?_
    show Goes p e below s _ _ _ (s₁.setTop (mkF m 12 #[.val (.ref it), .val (.int (0 : Int32)), .val (.int (1 : Int32)), .val (.int (0 : Int32))] [(.int (0 : Int32)), (.ref it)]))
    refine Goes.pre (fun t kt => XS.iloadN X0.here hx rfl (hb hby d13_12) rfl kt) ?_
    show Goes p e below s _ _ _ (s₁.setTop (mkF m 13 #[.val (.ref it), .val (.int (0 : Int32)), .val (.int (1 : Int32)), .val (.int (0 : Int32))] [(.int (1 : Int32)), (.int (0 : Int32)), (.ref it)]))
    refine Goes.pre (fun t kt => XS.iadd X0.here hx rfl (hb hby d13_13) rfl kt) ?_
    show Goes p e below s _ _ _ (s₁.setTop (mkF m 14 #[.val (.ref it), .val (.int (0 : Int32)), .val (.int (1 : Int32)), .val (.int (0 : Int32))] [(.int (1 : Int32)), (.ref it)]))
    refine Goes.pre (fun t kt => XS.iconst X0.here hx rfl (hb hby d13_14) kt) ?_
    show Goes p e below s _ _ _ (s₁.setTop (mkF m 15 #[.val (.ref it), .val (.int (0 : Int32)), .val (.int (1 : Int32)), .val (.int (0 : Int32))] [(.int (1 : Int32)), (.int (1 : Int32)), (.ref it)]))
    refine Goes.pre (fun t kt => XS.isub X0.here hx rfl (hb hby d13_15) rfl kt) ?_
    show Goes p e below s _ _ _ (s₁.setTop (mkF m 16 #[.val (.ref it), .val (.int (0 : Int32)), .val (.int (1 : Int32)), .val (.int (0 : Int32))] [(.int (0 : Int32)), (.ref it)]))
    refine Goes.pre (fun t kt => XS.iloadN X0.here hx rfl (hb hby d13_16) rfl kt) ?_
    show Goes p e below s _ _ _ (s₁.setTop (mkF m 17 #[.val (.ref it), .val (.int (0 : Int32)), .val (.int (1 : Int32)), .val (.int (0 : Int32))] [(.int (0 : Int32)), (.int (0 : Int32)), (.ref it)]))
    refine Goes.pre (fun t kt => XS.isub X0.here hx rfl (hb hby d13_17) rfl kt) ?_
    show Goes p e below s _ _ _ (s₁.setTop (mkF m 18 #[.val (.ref it), .val (.int (0 : Int32)), .val (.int (1 : Int32)), .val (.int (0 : Int32))] [(.int (0 : Int32)), (.ref it)]))
    obtain ⟨cl2, Ar2, aq2, aS2, aN2, aH2, aG2⟩ := pf_V_it
    have V2 : Arv Z h0 it kd .double (4 : Int32) [(.double w0), (.double w1), (.double w2), (.double w3)] (.double (0 : UInt64)) := ⟨cl2, Ar2, aq2, aS2, aN2, aH2, aG2⟩
    have hin2 : ¬ ((0 : Int32) < 0 ∨ cl2.slots.size ≤ ((0 : Int32)).toNatClampNeg) := inb_of aS2 ⟨by decide, by decide⟩
    have hat2 : cl2.slots[((0 : Int32)).toNatClampNeg]? = some (.double w0) := aH2.at hin2 rfl
    refine Goes.pre (X0.daload hx (j := (0 : Int32)) (v := (.double w0)) (by rw [e0]; exact Ar2.1) (State.isArrayOf_alike hZ.alike Ar2.2.1) Ar2.2.2 hin2 hat2 (g := (mkF m 18 #[.val (.ref it), .val (.int (0 : Int32)), .val (.int (1 : Int32)), .val (.int (0 : Int32))] [(.int (0 : Int32)), (.ref it)])) rfl rfl (hb hby d13_18)) ?_
    show Goes p e below s _ _ _ (s₁.setTop (mkF m 19 #[.val (.ref it), .val (.int (0 : Int32)), .val (.int (1 : Int32)), .val (.int (0 : Int32))] [(.double w0)]))
    refine Goes.ret X0 (some (.double w0)) (fun h => by rw [Bd.returns] at h; cases h) (BodyLoose.notSynchronized Bd) (by decide) (by decide) (fun fs hr => retOut X0 hx (t := .double) Bd.returns rfl (Or.inr (Or.inr (Or.inl ⟨rfl, rfl, _, rfl⟩))) (hb hby d13_19) hr) ?_
    show Q_rm13_0 Z it (0 : Int32) (1 : Int32) kd w0 w1 w2 w3 h0 n0 _ s₁.heap _
    rw [e0]
    exact ⟨(by rw [show own_e (0 : Int32) (1 : Int32) (0 : Int32) w0 w1 w2 w3 = w0 by simp [own_e, own_pick]]), N0, rfl⟩
  · show Goes p e below s _ _ _ (s₁.setTop (mkF m 0 #[.val (.ref it), .val (.int (0 : Int32)), .val (.int (2 : Int32)), .val (.int (0 : Int32))] []))
    refine Goes.pre (fun t kt => XS.iloadN X0.here hx rfl (hb hby d13_0) rfl kt) ?_
    show Goes p e below s _ _ _ (s₁.setTop (mkF m 1 #[.val (.ref it), .val (.int (0 : Int32)), .val (.int (2 : Int32)), .val (.int (0 : Int32))] [(.int (0 : Int32))]))
    refine Goes.pre (fun t kt => XS.iloadN X0.here hx rfl (hb hby d13_1) rfl kt) ?_
    show Goes p e below s _ _ _ (s₁.setTop (mkF m 2 #[.val (.ref it), .val (.int (0 : Int32)), .val (.int (2 : Int32)), .val (.int (0 : Int32))] [(.int (0 : Int32)), (.int (0 : Int32))]))
    refine Goes.pre (fun t kt => XS.icmpNo X0.here hx rfl (hb hby d13_2) rfl (Jvm.Free.XT.ii_gt_f ((by decide))) kt) ?_
    show Goes p e below s _ _ _ (s₁.setTop (mkF m 5 #[.val (.ref it), .val (.int (0 : Int32)), .val (.int (2 : Int32)), .val (.int (0 : Int32))] []))
    refine Goes.pre (fun t kt => XS.iloadN X0.here hx rfl (hb hby d13_5) rfl kt) ?_
    show Goes p e below s _ _ _ (s₁.setTop (mkF m 6 #[.val (.ref it), .val (.int (0 : Int32)), .val (.int (2 : Int32)), .val (.int (0 : Int32))] [(.int (0 : Int32))]))
    refine Goes.pre (fun t kt => XS.iloadN X0.here hx rfl (hb hby d13_6) rfl kt) ?_
    show Goes p e below s _ _ _ (s₁.setTop (mkF m 7 #[.val (.ref it), .val (.int (0 : Int32)), .val (.int (2 : Int32)), .val (.int (0 : Int32))] [(.int (2 : Int32)), (.int (0 : Int32))]))
    refine Goes.pre (fun t kt => XS.icmpNo X0.here hx rfl (hb hby d13_7) rfl (Jvm.Free.XT.ii_ge_f ((by decide))) kt) ?_
    show Goes p e below s _ _ _ (s₁.setTop (mkF m 10 #[.val (.ref it), .val (.int (0 : Int32)), .val (.int (2 : Int32)), .val (.int (0 : Int32))] []))
    refine Goes.pre (fun t kt => XS.aloadN X0.here hx rfl (hb hby d13_10) rfl rfl kt) ?_
    show Goes p e below s _ _ _ (s₁.setTop (mkF m 11 #[.val (.ref it), .val (.int (0 : Int32)), .val (.int (2 : Int32)), .val (.int (0 : Int32))] [(.ref it)]))
    refine Goes.pre (fun t kt => XS.iloadN X0.here hx rfl (hb hby d13_11) rfl kt) ?_
    show Goes p e below s _ _ _ (s₁.setTop (mkF m 12 #[.val (.ref it), .val (.int (0 : Int32)), .val (.int (2 : Int32)), .val (.int (0 : Int32))] [(.int (0 : Int32)), (.ref it)]))
    refine Goes.pre (fun t kt => XS.iloadN X0.here hx rfl (hb hby d13_12) rfl kt) ?_
    show Goes p e below s _ _ _ (s₁.setTop (mkF m 13 #[.val (.ref it), .val (.int (0 : Int32)), .val (.int (2 : Int32)), .val (.int (0 : Int32))] [(.int (2 : Int32)), (.int (0 : Int32)), (.ref it)]))
    refine Goes.pre (fun t kt => XS.iadd X0.here hx rfl (hb hby d13_13) rfl kt) ?_
    show Goes p e below s _ _ _ (s₁.setTop (mkF m 14 #[.val (.ref it), .val (.int (0 : Int32)), .val (.int (2 : Int32)), .val (.int (0 : Int32))] [(.int (2 : Int32)), (.ref it)]))
    refine Goes.pre (fun t kt => XS.iconst X0.here hx rfl (hb hby d13_14) kt) ?_
    show Goes p e below s _ _ _ (s₁.setTop (mkF m 15 #[.val (.ref it), .val (.int (0 : Int32)), .val (.int (2 : Int32)), .val (.int (0 : Int32))] [(.int (1 : Int32)), (.int (2 : Int32)), (.ref it)]))
    refine Goes.pre (fun t kt => XS.isub X0.here hx rfl (hb hby d13_15) rfl kt) ?_
    show Goes p e below s _ _ _ (s₁.setTop (mkF m 16 #[.val (.ref it), .val (.int (0 : Int32)), .val (.int (2 : Int32)), .val (.int (0 : Int32))] [(.int (1 : Int32)), (.ref it)]))
    refine Goes.pre (fun t kt => XS.iloadN X0.here hx rfl (hb hby d13_16) rfl kt) ?_
    show Goes p e below s _ _ _ (s₁.setTop (mkF m 17 #[.val (.ref it), .val (.int (0 : Int32)), .val (.int (2 : Int32)), .val (.int (0 : Int32))] [(.int (0 : Int32)), (.int (1 : Int32)), (.ref it)]))
    refine Goes.pre (fun t kt => XS.isub X0.here hx rfl (hb hby d13_17) rfl kt) ?_
    show Goes p e below s _ _ _ (s₁.setTop (mkF m 18 #[.val (.ref it), .val (.int (0 : Int32)), .val (.int (2 : Int32)), .val (.int (0 : Int32))] [(.int (1 : Int32)), (.ref it)]))
    obtain ⟨cl3, Ar3, aq3, aS3, aN3, aH3, aG3⟩ := pf_V_it
    have V3 : Arv Z h0 it kd .double (4 : Int32) [(.double w0), (.double w1), (.double w2), (.double w3)] (.double (0 : UInt64)) := ⟨cl3, Ar3, aq3, aS3, aN3, aH3, aG3⟩
    have hin3 : ¬ ((1 : Int32) < 0 ∨ cl3.slots.size ≤ ((1 : Int32)).toNatClampNeg) := inb_of aS3 ⟨by decide, by decide⟩
    have hat3 : cl3.slots[((1 : Int32)).toNatClampNeg]? = some (.double w1) := aH3.at hin3 rfl
    refine Goes.pre (X0.daload hx (j := (1 : Int32)) (v := (.double w1)) (by rw [e0]; exact Ar3.1) (State.isArrayOf_alike hZ.alike Ar3.2.1) Ar3.2.2 hin3 hat3 (g := (mkF m 18 #[.val (.ref it), .val (.int (0 : Int32)), .val (.int (2 : Int32)), .val (.int (0 : Int32))] [(.int (1 : Int32)), (.ref it)])) rfl rfl (hb hby d13_18)) ?_
    show Goes p e below s _ _ _ (s₁.setTop (mkF m 19 #[.val (.ref it), .val (.int (0 : Int32)), .val (.int (2 : Int32)), .val (.int (0 : Int32))] [(.double w1)]))
    refine Goes.ret X0 (some (.double w1)) (fun h => by rw [Bd.returns] at h; cases h) (BodyLoose.notSynchronized Bd) (by decide) (by decide) (fun fs hr => retOut X0 hx (t := .double) Bd.returns rfl (Or.inr (Or.inr (Or.inl ⟨rfl, rfl, _, rfl⟩))) (hb hby d13_19) hr) ?_
    show Q_rm13_0 Z it (0 : Int32) (2 : Int32) kd w0 w1 w2 w3 h0 n0 _ s₁.heap _
    rw [e0]
    exact ⟨(by rw [show own_e (0 : Int32) (2 : Int32) (0 : Int32) w0 w1 w2 w3 = w1 by simp [own_e, own_pick]]), N0, rfl⟩
  · show Goes p e below s _ _ _ (s₁.setTop (mkF m 0 #[.val (.ref it), .val (.int (0 : Int32)), .val (.int (3 : Int32)), .val (.int (0 : Int32))] []))
    refine Goes.pre (fun t kt => XS.iloadN X0.here hx rfl (hb hby d13_0) rfl kt) ?_
    show Goes p e below s _ _ _ (s₁.setTop (mkF m 1 #[.val (.ref it), .val (.int (0 : Int32)), .val (.int (3 : Int32)), .val (.int (0 : Int32))] [(.int (0 : Int32))]))
    refine Goes.pre (fun t kt => XS.iloadN X0.here hx rfl (hb hby d13_1) rfl kt) ?_
    show Goes p e below s _ _ _ (s₁.setTop (mkF m 2 #[.val (.ref it), .val (.int (0 : Int32)), .val (.int (3 : Int32)), .val (.int (0 : Int32))] [(.int (0 : Int32)), (.int (0 : Int32))]))
    refine Goes.pre (fun t kt => XS.icmpNo X0.here hx rfl (hb hby d13_2) rfl (Jvm.Free.XT.ii_gt_f ((by decide))) kt) ?_
    show Goes p e below s _ _ _ (s₁.setTop (mkF m 5 #[.val (.ref it), .val (.int (0 : Int32)), .val (.int (3 : Int32)), .val (.int (0 : Int32))] []))
    refine Goes.pre (fun t kt => XS.iloadN X0.here hx rfl (hb hby d13_5) rfl kt) ?_
    show Goes p e below s _ _ _ (s₁.setTop (mkF m 6 #[.val (.ref it), .val (.int (0 : Int32)), .val (.int (3 : Int32)), .val (.int (0 : Int32))] [(.int (0 : Int32))]))
    refine Goes.pre (fun t kt => XS.iloadN X0.here hx rfl (hb hby d13_6) rfl kt) ?_
    show Goes p e below s _ _ _ (s₁.setTop (mkF m 7 #[.val (.ref it), .val (.int (0 : Int32)), .val (.int (3 : Int32)), .val (.int (0 : Int32))] [(.int (3 : Int32)), (.int (0 : Int32))]))
    refine Goes.pre (fun t kt => XS.icmpNo X0.here hx rfl (hb hby d13_7) rfl (Jvm.Free.XT.ii_ge_f ((by decide))) kt) ?_
    show Goes p e below s _ _ _ (s₁.setTop (mkF m 10 #[.val (.ref it), .val (.int (0 : Int32)), .val (.int (3 : Int32)), .val (.int (0 : Int32))] []))
    refine Goes.pre (fun t kt => XS.aloadN X0.here hx rfl (hb hby d13_10) rfl rfl kt) ?_
    show Goes p e below s _ _ _ (s₁.setTop (mkF m 11 #[.val (.ref it), .val (.int (0 : Int32)), .val (.int (3 : Int32)), .val (.int (0 : Int32))] [(.ref it)]))
    refine Goes.pre (fun t kt => XS.iloadN X0.here hx rfl (hb hby d13_11) rfl kt) ?_
    show Goes p e below s _ _ _ (s₁.setTop (mkF m 12 #[.val (.ref it), .val (.int (0 : Int32)), .val (.int (3 : Int32)), .val (.int (0 : Int32))] [(.int (0 : Int32)), (.ref it)]))
    refine Goes.pre (fun t kt => XS.iloadN X0.here hx rfl (hb hby d13_12) rfl kt) ?_
    show Goes p e below s _ _ _ (s₁.setTop (mkF m 13 #[.val (.ref it), .val (.int (0 : Int32)), .val (.int (3 : Int32)), .val (.int (0 : Int32))] [(.int (3 : Int32)), (.int (0 : Int32)), (.ref it)]))
    refine Goes.pre (fun t kt => XS.iadd X0.here hx rfl (hb hby d13_13) rfl kt) ?_
    show Goes p e below s _ _ _ (s₁.setTop (mkF m 14 #[.val (.ref it), .val (.int (0 : Int32)), .val (.int (3 : Int32)), .val (.int (0 : Int32))] [(.int (3 : Int32)), (.ref it)]))
    refine Goes.pre (fun t kt => XS.iconst X0.here hx rfl (hb hby d13_14) kt) ?_
    show Goes p e below s _ _ _ (s₁.setTop (mkF m 15 #[.val (.ref it), .val (.int (0 : Int32)), .val (.int (3 : Int32)), .val (.int (0 : Int32))] [(.int (1 : Int32)), (.int (3 : Int32)), (.ref it)]))
    refine Goes.pre (fun t kt => XS.isub X0.here hx rfl (hb hby d13_15) rfl kt) ?_
    show Goes p e below s _ _ _ (s₁.setTop (mkF m 16 #[.val (.ref it), .val (.int (0 : Int32)), .val (.int (3 : Int32)), .val (.int (0 : Int32))] [(.int (2 : Int32)), (.ref it)]))
    refine Goes.pre (fun t kt => XS.iloadN X0.here hx rfl (hb hby d13_16) rfl kt) ?_
    show Goes p e below s _ _ _ (s₁.setTop (mkF m 17 #[.val (.ref it), .val (.int (0 : Int32)), .val (.int (3 : Int32)), .val (.int (0 : Int32))] [(.int (0 : Int32)), (.int (2 : Int32)), (.ref it)]))
    refine Goes.pre (fun t kt => XS.isub X0.here hx rfl (hb hby d13_17) rfl kt) ?_
    show Goes p e below s _ _ _ (s₁.setTop (mkF m 18 #[.val (.ref it), .val (.int (0 : Int32)), .val (.int (3 : Int32)), .val (.int (0 : Int32))] [(.int (2 : Int32)), (.ref it)]))
    obtain ⟨cl4, Ar4, aq4, aS4, aN4, aH4, aG4⟩ := pf_V_it
    have V4 : Arv Z h0 it kd .double (4 : Int32) [(.double w0), (.double w1), (.double w2), (.double w3)] (.double (0 : UInt64)) := ⟨cl4, Ar4, aq4, aS4, aN4, aH4, aG4⟩
    have hin4 : ¬ ((2 : Int32) < 0 ∨ cl4.slots.size ≤ ((2 : Int32)).toNatClampNeg) := inb_of aS4 ⟨by decide, by decide⟩
    have hat4 : cl4.slots[((2 : Int32)).toNatClampNeg]? = some (.double w2) := aH4.at hin4 rfl
    refine Goes.pre (X0.daload hx (j := (2 : Int32)) (v := (.double w2)) (by rw [e0]; exact Ar4.1) (State.isArrayOf_alike hZ.alike Ar4.2.1) Ar4.2.2 hin4 hat4 (g := (mkF m 18 #[.val (.ref it), .val (.int (0 : Int32)), .val (.int (3 : Int32)), .val (.int (0 : Int32))] [(.int (2 : Int32)), (.ref it)])) rfl rfl (hb hby d13_18)) ?_
    show Goes p e below s _ _ _ (s₁.setTop (mkF m 19 #[.val (.ref it), .val (.int (0 : Int32)), .val (.int (3 : Int32)), .val (.int (0 : Int32))] [(.double w2)]))
    refine Goes.ret X0 (some (.double w2)) (fun h => by rw [Bd.returns] at h; cases h) (BodyLoose.notSynchronized Bd) (by decide) (by decide) (fun fs hr => retOut X0 hx (t := .double) Bd.returns rfl (Or.inr (Or.inr (Or.inl ⟨rfl, rfl, _, rfl⟩))) (hb hby d13_19) hr) ?_
    show Q_rm13_0 Z it (0 : Int32) (3 : Int32) kd w0 w1 w2 w3 h0 n0 _ s₁.heap _
    rw [e0]
    exact ⟨(by rw [show own_e (0 : Int32) (3 : Int32) (0 : Int32) w0 w1 w2 w3 = w2 by simp [own_e, own_pick]]), N0, rfl⟩
  · show Goes p e below s _ _ _ (s₁.setTop (mkF m 0 #[.val (.ref it), .val (.int (0 : Int32)), .val (.int (4 : Int32)), .val (.int (0 : Int32))] []))
    refine Goes.pre (fun t kt => XS.iloadN X0.here hx rfl (hb hby d13_0) rfl kt) ?_
    show Goes p e below s _ _ _ (s₁.setTop (mkF m 1 #[.val (.ref it), .val (.int (0 : Int32)), .val (.int (4 : Int32)), .val (.int (0 : Int32))] [(.int (0 : Int32))]))
    refine Goes.pre (fun t kt => XS.iloadN X0.here hx rfl (hb hby d13_1) rfl kt) ?_
    show Goes p e below s _ _ _ (s₁.setTop (mkF m 2 #[.val (.ref it), .val (.int (0 : Int32)), .val (.int (4 : Int32)), .val (.int (0 : Int32))] [(.int (0 : Int32)), (.int (0 : Int32))]))
    refine Goes.pre (fun t kt => XS.icmpNo X0.here hx rfl (hb hby d13_2) rfl (Jvm.Free.XT.ii_gt_f ((by decide))) kt) ?_
    show Goes p e below s _ _ _ (s₁.setTop (mkF m 5 #[.val (.ref it), .val (.int (0 : Int32)), .val (.int (4 : Int32)), .val (.int (0 : Int32))] []))
    refine Goes.pre (fun t kt => XS.iloadN X0.here hx rfl (hb hby d13_5) rfl kt) ?_
    show Goes p e below s _ _ _ (s₁.setTop (mkF m 6 #[.val (.ref it), .val (.int (0 : Int32)), .val (.int (4 : Int32)), .val (.int (0 : Int32))] [(.int (0 : Int32))]))
    refine Goes.pre (fun t kt => XS.iloadN X0.here hx rfl (hb hby d13_6) rfl kt) ?_
    show Goes p e below s _ _ _ (s₁.setTop (mkF m 7 #[.val (.ref it), .val (.int (0 : Int32)), .val (.int (4 : Int32)), .val (.int (0 : Int32))] [(.int (4 : Int32)), (.int (0 : Int32))]))
    refine Goes.pre (fun t kt => XS.icmpNo X0.here hx rfl (hb hby d13_7) rfl (Jvm.Free.XT.ii_ge_f ((by decide))) kt) ?_
    show Goes p e below s _ _ _ (s₁.setTop (mkF m 10 #[.val (.ref it), .val (.int (0 : Int32)), .val (.int (4 : Int32)), .val (.int (0 : Int32))] []))
    refine Goes.pre (fun t kt => XS.aloadN X0.here hx rfl (hb hby d13_10) rfl rfl kt) ?_
    show Goes p e below s _ _ _ (s₁.setTop (mkF m 11 #[.val (.ref it), .val (.int (0 : Int32)), .val (.int (4 : Int32)), .val (.int (0 : Int32))] [(.ref it)]))
    refine Goes.pre (fun t kt => XS.iloadN X0.here hx rfl (hb hby d13_11) rfl kt) ?_
    show Goes p e below s _ _ _ (s₁.setTop (mkF m 12 #[.val (.ref it), .val (.int (0 : Int32)), .val (.int (4 : Int32)), .val (.int (0 : Int32))] [(.int (0 : Int32)), (.ref it)]))
    refine Goes.pre (fun t kt => XS.iloadN X0.here hx rfl (hb hby d13_12) rfl kt) ?_
    show Goes p e below s _ _ _ (s₁.setTop (mkF m 13 #[.val (.ref it), .val (.int (0 : Int32)), .val (.int (4 : Int32)), .val (.int (0 : Int32))] [(.int (4 : Int32)), (.int (0 : Int32)), (.ref it)]))
    refine Goes.pre (fun t kt => XS.iadd X0.here hx rfl (hb hby d13_13) rfl kt) ?_
    show Goes p e below s _ _ _ (s₁.setTop (mkF m 14 #[.val (.ref it), .val (.int (0 : Int32)), .val (.int (4 : Int32)), .val (.int (0 : Int32))] [(.int (4 : Int32)), (.ref it)]))
    refine Goes.pre (fun t kt => XS.iconst X0.here hx rfl (hb hby d13_14) kt) ?_
    show Goes p e below s _ _ _ (s₁.setTop (mkF m 15 #[.val (.ref it), .val (.int (0 : Int32)), .val (.int (4 : Int32)), .val (.int (0 : Int32))] [(.int (1 : Int32)), (.int (4 : Int32)), (.ref it)]))
    refine Goes.pre (fun t kt => XS.isub X0.here hx rfl (hb hby d13_15) rfl kt) ?_
    show Goes p e below s _ _ _ (s₁.setTop (mkF m 16 #[.val (.ref it), .val (.int (0 : Int32)), .val (.int (4 : Int32)), .val (.int (0 : Int32))] [(.int (3 : Int32)), (.ref it)]))
    refine Goes.pre (fun t kt => XS.iloadN X0.here hx rfl (hb hby d13_16) rfl kt) ?_
    show Goes p e below s _ _ _ (s₁.setTop (mkF m 17 #[.val (.ref it), .val (.int (0 : Int32)), .val (.int (4 : Int32)), .val (.int (0 : Int32))] [(.int (0 : Int32)), (.int (3 : Int32)), (.ref it)]))
    refine Goes.pre (fun t kt => XS.isub X0.here hx rfl (hb hby d13_17) rfl kt) ?_
    show Goes p e below s _ _ _ (s₁.setTop (mkF m 18 #[.val (.ref it), .val (.int (0 : Int32)), .val (.int (4 : Int32)), .val (.int (0 : Int32))] [(.int (3 : Int32)), (.ref it)]))
    obtain ⟨cl5, Ar5, aq5, aS5, aN5, aH5, aG5⟩ := pf_V_it
    have V5 : Arv Z h0 it kd .double (4 : Int32) [(.double w0), (.double w1), (.double w2), (.double w3)] (.double (0 : UInt64)) := ⟨cl5, Ar5, aq5, aS5, aN5, aH5, aG5⟩
    have hin5 : ¬ ((3 : Int32) < 0 ∨ cl5.slots.size ≤ ((3 : Int32)).toNatClampNeg) := inb_of aS5 ⟨by decide, by decide⟩
    have hat5 : cl5.slots[((3 : Int32)).toNatClampNeg]? = some (.double w3) := aH5.at hin5 rfl
    refine Goes.pre (X0.daload hx (j := (3 : Int32)) (v := (.double w3)) (by rw [e0]; exact Ar5.1) (State.isArrayOf_alike hZ.alike Ar5.2.1) Ar5.2.2 hin5 hat5 (g := (mkF m 18 #[.val (.ref it), .val (.int (0 : Int32)), .val (.int (4 : Int32)), .val (.int (0 : Int32))] [(.int (3 : Int32)), (.ref it)])) rfl rfl (hb hby d13_18)) ?_
    show Goes p e below s _ _ _ (s₁.setTop (mkF m 19 #[.val (.ref it), .val (.int (0 : Int32)), .val (.int (4 : Int32)), .val (.int (0 : Int32))] [(.double w3)]))
    refine Goes.ret X0 (some (.double w3)) (fun h => by rw [Bd.returns] at h; cases h) (BodyLoose.notSynchronized Bd) (by decide) (by decide) (fun fs hr => retOut X0 hx (t := .double) Bd.returns rfl (Or.inr (Or.inr (Or.inl ⟨rfl, rfl, _, rfl⟩))) (hb hby d13_19) hr) ?_
    show Q_rm13_0 Z it (0 : Int32) (4 : Int32) kd w0 w1 w2 w3 h0 n0 _ s₁.heap _
    rw [e0]
    exact ⟨(by rw [show own_e (0 : Int32) (4 : Int32) (0 : Int32) w0 w1 w2 w3 = w3 by simp [own_e, own_pick]]), N0, rfl⟩
  · show Goes p e below s _ _ _ (s₁.setTop (mkF m 0 #[.val (.ref it), .val (.int (1 : Int32)), .val (.int (1 : Int32)), .val (.int (0 : Int32))] []))
    refine Goes.pre (fun t kt => XS.iloadN X0.here hx rfl (hb hby d13_0) rfl kt) ?_
    show Goes p e below s _ _ _ (s₁.setTop (mkF m 1 #[.val (.ref it), .val (.int (1 : Int32)), .val (.int (1 : Int32)), .val (.int (0 : Int32))] [(.int (1 : Int32))]))
    refine Goes.pre (fun t kt => XS.iloadN X0.here hx rfl (hb hby d13_1) rfl kt) ?_
    show Goes p e below s _ _ _ (s₁.setTop (mkF m 2 #[.val (.ref it), .val (.int (1 : Int32)), .val (.int (1 : Int32)), .val (.int (0 : Int32))] [(.int (0 : Int32)), (.int (1 : Int32))]))
    refine Goes.pre (fun t kt => XS.icmpYes X0.here hx rfl (pc0 := 2) (pc' := 20) rfl (hb hby d13_2) rfl (Jvm.Free.XT.ii_gt_t ((by decide))) (by decide) (by decide) kt) ?_
    show Goes p e below s _ _ _ (s₁.setTop (mkF m 20 #[.val (.ref it), .val (.int (1 : Int32)), .val (.int (1 : Int32)), .val (.int (0 : Int32))] []))
    refine Goes.pre (fun t kt => XS.aloadN X0.here hx rfl (hb hby d13_20) rfl rfl kt) ?_
    show Goes p e below s _ _ _ (s₁.setTop (mkF m 21 #[.val (.ref it), .val (.int (1 : Int32)), .val (.int (1 : Int32)), .val (.int (0 : Int32))] [(.ref it)]))
    refine Goes.pre (fun t kt => XS.iloadN X0.here hx rfl (hb hby d13_21) rfl kt) ?_
    show Goes p e below s _ _ _ (s₁.setTop (mkF m 22 #[.val (.ref it), .val (.int (1 : Int32)), .val (.int (1 : Int32)), .val (.int (0 : Int32))] [(.int (0 : Int32)), (.ref it)]))
    obtain ⟨cl6, Ar6, aq6, aS6, aN6, aH6, aG6⟩ := pf_V_it
    have V6 : Arv Z h0 it kd .double (4 : Int32) [(.double w0), (.double w1), (.double w2), (.double w3)] (.double (0 : UInt64)) := ⟨cl6, Ar6, aq6, aS6, aN6, aH6, aG6⟩
    have hin6 : ¬ ((0 : Int32) < 0 ∨ cl6.slots.size ≤ ((0 : Int32)).toNatClampNeg) := inb_of aS6 ⟨by decide, by decide⟩
    have hat6 : cl6.slots[((0 : Int32)).toNatClampNeg]? = some (.double w0) := aH6.at hin6 rfl
    refine Goes.pre (X0.daload hx (j := (0 : Int32)) (v := (.double w0)) (by rw [e0]; exact Ar6.1) (State.isArrayOf_alike hZ.alike Ar6.2.1) Ar6.2.2 hin6 hat6 (g := (mkF m 22 #[.val (.ref it), .val (.int (1 : Int32)), .val (.int (1 : Int32)), .val (.int (0 : Int32))] [(.int (0 : Int32)), (.ref it)])) rfl rfl (hb hby d13_22)) ?_
    show Goes p e below s _ _ _ (s₁.setTop (mkF m 23 #[.val (.ref it), .val (.int (1 : Int32)), .val (.int (1 : Int32)), .val (.int (0 : Int32))] [(.double w0)]))
    refine Goes.ret X0 (some (.double w0)) (fun h => by rw [Bd.returns] at h; cases h) (BodyLoose.notSynchronized Bd) (by decide) (by decide) (fun fs hr => retOut X0 hx (t := .double) Bd.returns rfl (Or.inr (Or.inr (Or.inl ⟨rfl, rfl, _, rfl⟩))) (hb hby d13_23) hr) ?_
    show Q_rm13_0 Z it (1 : Int32) (1 : Int32) kd w0 w1 w2 w3 h0 n0 _ s₁.heap _
    rw [e0]
    exact ⟨(by rw [show own_e (1 : Int32) (1 : Int32) (0 : Int32) w0 w1 w2 w3 = w0 by simp [own_e, own_pick]]), N0, rfl⟩
  · show Goes p e below s _ _ _ (s₁.setTop (mkF m 0 #[.val (.ref it), .val (.int (1 : Int32)), .val (.int (2 : Int32)), .val (.int (0 : Int32))] []))
    refine Goes.pre (fun t kt => XS.iloadN X0.here hx rfl (hb hby d13_0) rfl kt) ?_
    show Goes p e below s _ _ _ (s₁.setTop (mkF m 1 #[.val (.ref it), .val (.int (1 : Int32)), .val (.int (2 : Int32)), .val (.int (0 : Int32))] [(.int (1 : Int32))]))
    refine Goes.pre (fun t kt => XS.iloadN X0.here hx rfl (hb hby d13_1) rfl kt) ?_
    show Goes p e below s _ _ _ (s₁.setTop (mkF m 2 #[.val (.ref it), .val (.int (1 : Int32)), .val (.int (2 : Int32)), .val (.int (0 : Int32))] [(.int (0 : Int32)), (.int (1 : Int32))]))
    refine Goes.pre (fun t kt => XS.icmpYes X0.here hx rfl (pc0 := 2) (pc' := 20) rfl (hb hby d13_2) rfl (Jvm.Free.XT.ii_gt_t ((by decide))) (by decide) (by decide) kt) ?_
    show Goes p e below s _ _ _ (s₁.setTop (mkF m 20 #[.val (.ref it), .val (.int (1 : Int32)), .val (.int (2 : Int32)), .val (.int (0 : Int32))] []))
    refine Goes.pre (fun t kt => XS.aloadN X0.here hx rfl (hb hby d13_20) rfl rfl kt) ?_
    show Goes p e below s _ _ _ (s₁.setTop (mkF m 21 #[.val (.ref it), .val (.int (1 : Int32)), .val (.int (2 : Int32)), .val (.int (0 : Int32))] [(.ref it)]))
    refine Goes.pre (fun t kt => XS.iloadN X0.here hx rfl (hb hby d13_21) rfl kt) ?_
    show Goes p e below s _ _ _ (s₁.setTop (mkF m 22 #[.val (.ref it), .val (.int (1 : Int32)), .val (.int (2 : Int32)), .val (.int (0 : Int32))] [(.int (0 : Int32)), (.ref it)]))
    obtain ⟨cl7, Ar7, aq7, aS7, aN7, aH7, aG7⟩ := pf_V_it
    have V7 : Arv Z h0 it kd .double (4 : Int32) [(.double w0), (.double w1), (.double w2), (.double w3)] (.double (0 : UInt64)) := ⟨cl7, Ar7, aq7, aS7, aN7, aH7, aG7⟩
    have hin7 : ¬ ((0 : Int32) < 0 ∨ cl7.slots.size ≤ ((0 : Int32)).toNatClampNeg) := inb_of aS7 ⟨by decide, by decide⟩
    have hat7 : cl7.slots[((0 : Int32)).toNatClampNeg]? = some (.double w0) := aH7.at hin7 rfl
    refine Goes.pre (X0.daload hx (j := (0 : Int32)) (v := (.double w0)) (by rw [e0]; exact Ar7.1) (State.isArrayOf_alike hZ.alike Ar7.2.1) Ar7.2.2 hin7 hat7 (g := (mkF m 22 #[.val (.ref it), .val (.int (1 : Int32)), .val (.int (2 : Int32)), .val (.int (0 : Int32))] [(.int (0 : Int32)), (.ref it)])) rfl rfl (hb hby d13_22)) ?_
    show Goes p e below s _ _ _ (s₁.setTop (mkF m 23 #[.val (.ref it), .val (.int (1 : Int32)), .val (.int (2 : Int32)), .val (.int (0 : Int32))] [(.double w0)]))
    refine Goes.ret X0 (some (.double w0)) (fun h => by rw [Bd.returns] at h; cases h) (BodyLoose.notSynchronized Bd) (by decide) (by decide) (fun fs hr => retOut X0 hx (t := .double) Bd.returns rfl (Or.inr (Or.inr (Or.inl ⟨rfl, rfl, _, rfl⟩))) (hb hby d13_23) hr) ?_
    show Q_rm13_0 Z it (1 : Int32) (2 : Int32) kd w0 w1 w2 w3 h0 n0 _ s₁.heap _
    rw [e0]
    exact ⟨(by rw [show own_e (1 : Int32) (2 : Int32) (0 : Int32) w0 w1 w2 w3 = w0 by simp [own_e, own_pick]]), N0, rfl⟩
  · show Goes p e below s _ _ _ (s₁.setTop (mkF m 0 #[.val (.ref it), .val (.int (1 : Int32)), .val (.int (3 : Int32)), .val (.int (0 : Int32))] []))
    refine Goes.pre (fun t kt => XS.iloadN X0.here hx rfl (hb hby d13_0) rfl kt) ?_
    show Goes p e below s _ _ _ (s₁.setTop (mkF m 1 #[.val (.ref it), .val (.int (1 : Int32)), .val (.int (3 : Int32)), .val (.int (0 : Int32))] [(.int (1 : Int32))]))
    refine Goes.pre (fun t kt => XS.iloadN X0.here hx rfl (hb hby d13_1) rfl kt) ?_
    show Goes p e below s _ _ _ (s₁.setTop (mkF m 2 #[.val (.ref it), .val (.int (1 : Int32)), .val (.int (3 : Int32)), .val (.int (0 : Int32))] [(.int (0 : Int32)), (.int (1 : Int32))]))
    refine Goes.pre (fun t kt => XS.icmpYes X0.here hx rfl (pc0 := 2) (pc' := 20) rfl (hb hby d13_2) rfl (Jvm.Free.XT.ii_gt_t ((by decide))) (by decide) (by decide) kt) ?_
    show Goes p e below s _ _ _ (s₁.setTop (mkF m 20 #[.val (.ref it), .val (.int (1 : Int32)), .val (.int (3 : Int32)), .val (.int (0 : Int32))] []))
    refine Goes.pre (fun t kt => XS.aloadN X0.here hx rfl (hb hby d13_20) rfl rfl kt) ?_
    show Goes p e below s _ _ _ (s₁.setTop (mkF m 21 #[.val (.ref it), .val (.int (1 : Int32)), .val (.int (3 : Int32)), .val (.int (0 : Int32))] [(.ref it)]))
    refine Goes.pre (fun t kt => XS.iloadN X0.here hx rfl (hb hby d13_21) rfl kt) ?_
    show Goes p e below s _ _ _ (s₁.setTop (mkF m 22 #[.val (.ref it), .val (.int (1 : Int32)), .val (.int (3 : Int32)), .val (.int (0 : Int32))] [(.int (0 : Int32)), (.ref it)]))
    obtain ⟨cl8, Ar8, aq8, aS8, aN8, aH8, aG8⟩ := pf_V_it
    have V8 : Arv Z h0 it kd .double (4 : Int32) [(.double w0), (.double w1), (.double w2), (.double w3)] (.double (0 : UInt64)) := ⟨cl8, Ar8, aq8, aS8, aN8, aH8, aG8⟩
    have hin8 : ¬ ((0 : Int32) < 0 ∨ cl8.slots.size ≤ ((0 : Int32)).toNatClampNeg) := inb_of aS8 ⟨by decide, by decide⟩
    have hat8 : cl8.slots[((0 : Int32)).toNatClampNeg]? = some (.double w0) := aH8.at hin8 rfl
    refine Goes.pre (X0.daload hx (j := (0 : Int32)) (v := (.double w0)) (by rw [e0]; exact Ar8.1) (State.isArrayOf_alike hZ.alike Ar8.2.1) Ar8.2.2 hin8 hat8 (g := (mkF m 22 #[.val (.ref it), .val (.int (1 : Int32)), .val (.int (3 : Int32)), .val (.int (0 : Int32))] [(.int (0 : Int32)), (.ref it)])) rfl rfl (hb hby d13_22)) ?_
    show Goes p e below s _ _ _ (s₁.setTop (mkF m 23 #[.val (.ref it), .val (.int (1 : Int32)), .val (.int (3 : Int32)), .val (.int (0 : Int32))] [(.double w0)]))
    refine Goes.ret X0 (some (.double w0)) (fun h => by rw [Bd.returns] at h; cases h) (BodyLoose.notSynchronized Bd) (by decide) (by decide) (fun fs hr => retOut X0 hx (t := .double) Bd.returns rfl (Or.inr (Or.inr (Or.inl ⟨rfl, rfl, _, rfl⟩))) (hb hby d13_23) hr) ?_
    show Q_rm13_0 Z it (1 : Int32) (3 : Int32) kd w0 w1 w2 w3 h0 n0 _ s₁.heap _
    rw [e0]
    exact ⟨(by rw [show own_e (1 : Int32) (3 : Int32) (0 : Int32) w0 w1 w2 w3 = w0 by simp [own_e, own_pick]]), N0, rfl⟩
  · show Goes p e below s _ _ _ (s₁.setTop (mkF m 0 #[.val (.ref it), .val (.int (1 : Int32)), .val (.int (4 : Int32)), .val (.int (0 : Int32))] []))
    refine Goes.pre (fun t kt => XS.iloadN X0.here hx rfl (hb hby d13_0) rfl kt) ?_
    show Goes p e below s _ _ _ (s₁.setTop (mkF m 1 #[.val (.ref it), .val (.int (1 : Int32)), .val (.int (4 : Int32)), .val (.int (0 : Int32))] [(.int (1 : Int32))]))
    refine Goes.pre (fun t kt => XS.iloadN X0.here hx rfl (hb hby d13_1) rfl kt) ?_
    show Goes p e below s _ _ _ (s₁.setTop (mkF m 2 #[.val (.ref it), .val (.int (1 : Int32)), .val (.int (4 : Int32)), .val (.int (0 : Int32))] [(.int (0 : Int32)), (.int (1 : Int32))]))
    refine Goes.pre (fun t kt => XS.icmpYes X0.here hx rfl (pc0 := 2) (pc' := 20) rfl (hb hby d13_2) rfl (Jvm.Free.XT.ii_gt_t ((by decide))) (by decide) (by decide) kt) ?_
    show Goes p e below s _ _ _ (s₁.setTop (mkF m 20 #[.val (.ref it), .val (.int (1 : Int32)), .val (.int (4 : Int32)), .val (.int (0 : Int32))] []))
    refine Goes.pre (fun t kt => XS.aloadN X0.here hx rfl (hb hby d13_20) rfl rfl kt) ?_
    show Goes p e below s _ _ _ (s₁.setTop (mkF m 21 #[.val (.ref it), .val (.int (1 : Int32)), .val (.int (4 : Int32)), .val (.int (0 : Int32))] [(.ref it)]))
    refine Goes.pre (fun t kt => XS.iloadN X0.here hx rfl (hb hby d13_21) rfl kt) ?_
    show Goes p e below s _ _ _ (s₁.setTop (mkF m 22 #[.val (.ref it), .val (.int (1 : Int32)), .val (.int (4 : Int32)), .val (.int (0 : Int32))] [(.int (0 : Int32)), (.ref it)]))
    obtain ⟨cl9, Ar9, aq9, aS9, aN9, aH9, aG9⟩ := pf_V_it
    have V9 : Arv Z h0 it kd .double (4 : Int32) [(.double w0), (.double w1), (.double w2), (.double w3)] (.double (0 : UInt64)) := ⟨cl9, Ar9, aq9, aS9, aN9, aH9, aG9⟩
    have hin9 : ¬ ((0 : Int32) < 0 ∨ cl9.slots.size ≤ ((0 : Int32)).toNatClampNeg) := inb_of aS9 ⟨by decide, by decide⟩
    have hat9 : cl9.slots[((0 : Int32)).toNatClampNeg]? = some (.double w0) := aH9.at hin9 rfl
    refine Goes.pre (X0.daload hx (j := (0 : Int32)) (v := (.double w0)) (by rw [e0]; exact Ar9.1) (State.isArrayOf_alike hZ.alike Ar9.2.1) Ar9.2.2 hin9 hat9 (g := (mkF m 22 #[.val (.ref it), .val (.int (1 : Int32)), .val (.int (4 : Int32)), .val (.int (0 : Int32))] [(.int (0 : Int32)), (.ref it)])) rfl rfl (hb hby d13_22)) ?_
    show Goes p e below s _ _ _ (s₁.setTop (mkF m 23 #[.val (.ref it), .val (.int (1 : Int32)), .val (.int (4 : Int32)), .val (.int (0 : Int32))] [(.double w0)]))
    refine Goes.ret X0 (some (.double w0)) (fun h => by rw [Bd.returns] at h; cases h) (BodyLoose.notSynchronized Bd) (by decide) (by decide) (fun fs hr => retOut X0 hx (t := .double) Bd.returns rfl (Or.inr (Or.inr (Or.inl ⟨rfl, rfl, _, rfl⟩))) (hb hby d13_23) hr) ?_
    show Q_rm13_0 Z it (1 : Int32) (4 : Int32) kd w0 w1 w2 w3 h0 n0 _ s₁.heap _
    rw [e0]
    exact ⟨(by rw [show own_e (1 : Int32) (4 : Int32) (0 : Int32) w0 w1 w2 w3 = w0 by simp [own_e, own_pick]]), N0, rfl⟩
  · show Goes p e below s _ _ _ (s₁.setTop (mkF m 0 #[.val (.ref it), .val (.int (2 : Int32)), .val (.int (2 : Int32)), .val (.int (0 : Int32))] []))
    refine Goes.pre (fun t kt => XS.iloadN X0.here hx rfl (hb hby d13_0) rfl kt) ?_
    show Goes p e below s _ _ _ (s₁.setTop (mkF m 1 #[.val (.ref it), .val (.int (2 : Int32)), .val (.int (2 : Int32)), .val (.int (0 : Int32))] [(.int (2 : Int32))]))
    refine Goes.pre (fun t kt => XS.iloadN X0.here hx rfl (hb hby d13_1) rfl kt) ?_
    show Goes p e below s _ _ _ (s₁.setTop (mkF m 2 #[.val (.ref it), .val (.int (2 : Int32)), .val (.int (2 : Int32)), .val (.int (0 : Int32))] [(.int (0 : Int32)), (.int (2 : Int32))]))
    refine Goes.pre (fun t kt => XS.icmpYes X0.here hx rfl (pc0 := 2) (pc' := 20) rfl (hb hby d13_2) rfl (Jvm.Free.XT.ii_gt_t ((by decide))) (by decide) (by decide) kt) ?_
    show Goes p e below s _ _ _ (s₁.setTop (mkF m 20 #[.val (.ref it), .val (.int (2 : Int32)), .val (.int (2 : Int32)), .val (.int (0 : Int32))] []))
    refine Goes.pre (fun t kt => XS.aloadN X0.here hx rfl (hb hby d13_20) rfl rfl kt) ?_
    show Goes p e below s _ _ _ (s₁.setTop (mkF m 21 #[.val (.ref it), .val (.int (2 : Int32)), .val (.int (2 : Int32)), .val (.int (0 : Int32))] [(.ref it)]))
    refine Goes.pre (fun t kt => XS.iloadN X0.here hx rfl (hb hby d13_21) rfl kt) ?_
    show Goes p e below s _ _ _ (s₁.setTop (mkF m 22 #[.val (.ref it), .val (.int (2 : Int32)), .val (.int (2 : Int32)), .val (.int (0 : Int32))] [(.int (0 : Int32)), (.ref it)]))
    obtain ⟨cl10, Ar10, aq10, aS10, aN10, aH10, aG10⟩ := pf_V_it
    have V10 : Arv Z h0 it kd .double (4 : Int32) [(.double w0), (.double w1), (.double w2), (.double w3)] (.double (0 : UInt64)) := ⟨cl10, Ar10, aq10, aS10, aN10, aH10, aG10⟩
    have hin10 : ¬ ((0 : Int32) < 0 ∨ cl10.slots.size ≤ ((0 : Int32)).toNatClampNeg) := inb_of aS10 ⟨by decide, by decide⟩
    have hat10 : cl10.slots[((0 : Int32)).toNatClampNeg]? = some (.double w0) := aH10.at hin10 rfl
    refine Goes.pre (X0.daload hx (j := (0 : Int32)) (v := (.double w0)) (by rw [e0]; exact Ar10.1) (State.isArrayOf_alike hZ.alike Ar10.2.1) Ar10.2.2 hin10 hat10 (g := (mkF m 22 #[.val (.ref it), .val (.int (2 : Int32)), .val (.int (2 : Int32)), .val (.int (0 : Int32))] [(.int (0 : Int32)), (.ref it)])) rfl rfl (hb hby d13_22)) ?_
    show Goes p e below s _ _ _ (s₁.setTop (mkF m 23 #[.val (.ref it), .val (.int (2 : Int32)), .val (.int (2 : Int32)), .val (.int (0 : Int32))] [(.double w0)]))
    refine Goes.ret X0 (some (.double w0)) (fun h => by rw [Bd.returns] at h; cases h) (BodyLoose.notSynchronized Bd) (by decide) (by decide) (fun fs hr => retOut X0 hx (t := .double) Bd.returns rfl (Or.inr (Or.inr (Or.inl ⟨rfl, rfl, _, rfl⟩))) (hb hby d13_23) hr) ?_
    show Q_rm13_0 Z it (2 : Int32) (2 : Int32) kd w0 w1 w2 w3 h0 n0 _ s₁.heap _
    rw [e0]
    exact ⟨(by rw [show own_e (2 : Int32) (2 : Int32) (0 : Int32) w0 w1 w2 w3 = w0 by simp [own_e, own_pick]]), N0, rfl⟩
  · show Goes p e below s _ _ _ (s₁.setTop (mkF m 0 #[.val (.ref it), .val (.int (2 : Int32)), .val (.int (3 : Int32)), .val (.int (0 : Int32))] []))
    refine Goes.pre (fun t kt => XS.iloadN X0.here hx rfl (hb hby d13_0) rfl kt) ?_
    show Goes p e below s _ _ _ (s₁.setTop (mkF m 1 #[.val (.ref it), .val (.int (2 : Int32)), .val (.int (3 : Int32)), .val (.int (0 : Int32))] [(.int (2 : Int32))]))
    refine Goes.pre (fun t kt => XS.iloadN X0.here hx rfl (hb hby d13_1) rfl kt) ?_
    show Goes p e below s _ _ _ (s₁.setTop (mkF m 2 #[.val (.ref it), .val (.int (2 : Int32)), .val (.int (3 : Int32)), .val (.int (0 : Int32))] [(.int (0 : Int32)), (.int (2 : Int32))]))
    refine Goes.pre (fun t kt => XS.icmpYes X0.here hx rfl (pc0 := 2) (pc' := 20) rfl (hb hby d13_2) rfl (Jvm.Free.XT.ii_gt_t ((by decide))) (by decide) (by decide) kt) ?_
    show Goes p e below s _ _ _ (s₁.setTop (mkF m 20 #[.val (.ref it), .val (.int (2 : Int32)), .val (.int (3 : Int32)), .val (.int (0 : Int32))] []))
    refine Goes.pre (fun t kt => XS.aloadN X0.here hx rfl (hb hby d13_20) rfl rfl kt) ?_
    show Goes p e below s _ _ _ (s₁.setTop (mkF m 21 #[.val (.ref it), .val (.int (2 : Int32)), .val (.int (3 : Int32)), .val (.int (0 : Int32))] [(.ref it)]))
    refine Goes.pre (fun t kt => XS.iloadN X0.here hx rfl (hb hby d13_21) rfl kt) ?_
    show Goes p e below s _ _ _ (s₁.setTop (mkF m 22 #[.val (.ref it), .val (.int (2 : Int32)), .val (.int (3 : Int32)), .val (.int (0 : Int32))] [(.int (0 : Int32)), (.ref it)]))
    obtain ⟨cl11, Ar11, aq11, aS11, aN11, aH11, aG11⟩ := pf_V_it
    have V11 : Arv Z h0 it kd .double (4 : Int32) [(.double w0), (.double w1), (.double w2), (.double w3)] (.double (0 : UInt64)) := ⟨cl11, Ar11, aq11, aS11, aN11, aH11, aG11⟩
    have hin11 : ¬ ((0 : Int32) < 0 ∨ cl11.slots.size ≤ ((0 : Int32)).toNatClampNeg) := inb_of aS11 ⟨by decide, by decide⟩
    have hat11 : cl11.slots[((0 : Int32)).toNatClampNeg]? = some (.double w0) := aH11.at hin11 rfl
    refine Goes.pre (X0.daload hx (j := (0 : Int32)) (v := (.double w0)) (by rw [e0]; exact Ar11.1) (State.isArrayOf_alike hZ.alike Ar11.2.1) Ar11.2.2 hin11 hat11 (g := (mkF m 22 #[.val (.ref it), .val (.int (2 : Int32)), .val (.int (3 : Int32)), .val (.int (0 : Int32))] [(.int (0 : Int32)), (.ref it)])) rfl rfl (hb hby d13_22)) ?_
    show Goes p e below s _ _ _ (s₁.setTop (mkF m 23 #[.val (.ref it), .val (.int (2 : Int32)), .val (.int (3 : Int32)), .val (.int (0 : Int32))] [(.double w0)]))
    refine Goes.ret X0 (some (.double w0)) (fun h => by rw [Bd.returns] at h; cases h) (BodyLoose.notSynchronized Bd) (by decide) (by decide) (fun fs hr => retOut X0 hx (t := .double) Bd.returns rfl (Or.inr (Or.inr (Or.inl ⟨rfl, rfl, _, rfl⟩))) (hb hby d13_23) hr) ?_
    show Q_rm13_0 Z it (2 : Int32) (3 : Int32) kd w0 w1 w2 w3 h0 n0 _ s₁.heap _
    rw [e0]
    exact ⟨(by rw [show own_e (2 : Int32) (3 : Int32) (0 : Int32) w0 w1 w2 w3 = w0 by simp [own_e, own_pick]]), N0, rfl⟩
  · show Goes p e below s _ _ _ (s₁.setTop (mkF m 0 #[.val (.ref it), .val (.int (2 : Int32)), .val (.int (4 : Int32)), .val (.int (0 : Int32))] []))
    refine Goes.pre (fun t kt => XS.iloadN X0.here hx rfl (hb hby d13_0) rfl kt) ?_
    show Goes p e below s _ _ _ (s₁.setTop (mkF m 1 #[.val (.ref it), .val (.int (2 : Int32)), .val (.int (4 : Int32)), .val (.int (0 : Int32))] [(.int (2 : Int32))]))
    refine Goes.pre (fun t kt => XS.iloadN X0.here hx rfl (hb hby d13_1) rfl kt) ?_
    show Goes p e below s _ _ _ (s₁.setTop (mkF m 2 #[.val (.ref it), .val (.int (2 : Int32)), .val (.int (4 : Int32)), .val (.int (0 : Int32))] [(.int (0 : Int32)), (.int (2 : Int32))]))
    refine Goes.pre (fun t kt => XS.icmpYes X0.here hx rfl (pc0 := 2) (pc' := 20) rfl (hb hby d13_2) rfl (Jvm.Free.XT.ii_gt_t ((by decide))) (by decide) (by decide) kt) ?_
    show Goes p e below s _ _ _ (s₁.setTop (mkF m 20 #[.val (.ref it), .val (.int (2 : Int32)), .val (.int (4 : Int32)), .val (.int (0 : Int32))] []))
    refine Goes.pre (fun t kt => XS.aloadN X0.here hx rfl (hb hby d13_20) rfl rfl kt) ?_
    show Goes p e below s _ _ _ (s₁.setTop (mkF m 21 #[.val (.ref it), .val (.int (2 : Int32)), .val (.int (4 : Int32)), .val (.int (0 : Int32))] [(.ref it)]))
    refine Goes.pre (fun t kt => XS.iloadN X0.here hx rfl (hb hby d13_21) rfl kt) ?_
    show Goes p e below s _ _ _ (s₁.setTop (mkF m 22 #[.val (.ref it), .val (.int (2 : Int32)), .val (.int (4 : Int32)), .val (.int (0 : Int32))] [(.int (0 : Int32)), (.ref it)]))
    obtain ⟨cl12, Ar12, aq12, aS12, aN12, aH12, aG12⟩ := pf_V_it
    have V12 : Arv Z h0 it kd .double (4 : Int32) [(.double w0), (.double w1), (.double w2), (.double w3)] (.double (0 : UInt64)) := ⟨cl12, Ar12, aq12, aS12, aN12, aH12, aG12⟩
    have hin12 : ¬ ((0 : Int32) < 0 ∨ cl12.slots.size ≤ ((0 : Int32)).toNatClampNeg) := inb_of aS12 ⟨by decide, by decide⟩
    have hat12 : cl12.slots[((0 : Int32)).toNatClampNeg]? = some (.double w0) := aH12.at hin12 rfl
    refine Goes.pre (X0.daload hx (j := (0 : Int32)) (v := (.double w0)) (by rw [e0]; exact Ar12.1) (State.isArrayOf_alike hZ.alike Ar12.2.1) Ar12.2.2 hin12 hat12 (g := (mkF m 22 #[.val (.ref it), .val (.int (2 : Int32)), .val (.int (4 : Int32)), .val (.int (0 : Int32))] [(.int (0 : Int32)), (.ref it)])) rfl rfl (hb hby d13_22)) ?_
    show Goes p e below s _ _ _ (s₁.setTop (mkF m 23 #[.val (.ref it), .val (.int (2 : Int32)), .val (.int (4 : Int32)), .val (.int (0 : Int32))] [(.double w0)]))
    refine Goes.ret X0 (some (.double w0)) (fun h => by rw [Bd.returns] at h; cases h) (BodyLoose.notSynchronized Bd) (by decide) (by decide) (fun fs hr => retOut X0 hx (t := .double) Bd.returns rfl (Or.inr (Or.inr (Or.inl ⟨rfl, rfl, _, rfl⟩))) (hb hby d13_23) hr) ?_
    show Q_rm13_0 Z it (2 : Int32) (4 : Int32) kd w0 w1 w2 w3 h0 n0 _ s₁.heap _
    rw [e0]
    exact ⟨(by rw [show own_e (2 : Int32) (4 : Int32) (0 : Int32) w0 w1 w2 w3 = w0 by simp [own_e, own_pick]]), N0, rfl⟩
  · show Goes p e below s _ _ _ (s₁.setTop (mkF m 0 #[.val (.ref it), .val (.int (3 : Int32)), .val (.int (3 : Int32)), .val (.int (0 : Int32))] []))
    refine Goes.pre (fun t kt => XS.iloadN X0.here hx rfl (hb hby d13_0) rfl kt) ?_
    show Goes p e below s _ _ _ (s₁.setTop (mkF m 1 #[.val (.ref it), .val (.int (3 : Int32)), .val (.int (3 : Int32)), .val (.int (0 : Int32))] [(.int (3 : Int32))]))
    refine Goes.pre (fun t kt => XS.iloadN X0.here hx rfl (hb hby d13_1) rfl kt) ?_
    show Goes p e below s _ _ _ (s₁.setTop (mkF m 2 #[.val (.ref it), .val (.int (3 : Int32)), .val (.int (3 : Int32)), .val (.int (0 : Int32))] [(.int (0 : Int32)), (.int (3 : Int32))]))
    refine Goes.pre (fun t kt => XS.icmpYes X0.here hx rfl (pc0 := 2) (pc' := 20) rfl (hb hby d13_2) rfl (Jvm.Free.XT.ii_gt_t ((by decide))) (by decide) (by decide) kt) ?_
    show Goes p e below s _ _ _ (s₁.setTop (mkF m 20 #[.val (.ref it), .val (.int (3 : Int32)), .val (.int (3 : Int32)), .val (.int (0 : Int32))] []))
    refine Goes.pre (fun t kt => XS.aloadN X0.here hx rfl (hb hby d13_20) rfl rfl kt) ?_
    show Goes p e below s _ _ _ (s₁.setTop (mkF m 21 #[.val (.ref it), .val (.int (3 : Int32)), .val (.int (3 : Int32)), .val (.int (0 : Int32))] [(.ref it)]))
    refine Goes.pre (fun t kt => XS.iloadN X0.here hx rfl (hb hby d13_21) rfl kt) ?_
    show Goes p e below s _ _ _ (s₁.setTop (mkF m 22 #[.val (.ref it), .val (.int (3 : Int32)), .val (.int (3 : Int32)), .val (.int (0 : Int32))] [(.int (0 : Int32)), (.ref it)]))
    obtain ⟨cl13, Ar13, aq13, aS13, aN13, aH13, aG13⟩ := pf_V_it
    have V13 : Arv Z h0 it kd .double (4 : Int32) [(.double w0), (.double w1), (.double w2), (.double w3)] (.double (0 : UInt64)) := ⟨cl13, Ar13, aq13, aS13, aN13, aH13, aG13⟩
    have hin13 : ¬ ((0 : Int32) < 0 ∨ cl13.slots.size ≤ ((0 : Int32)).toNatClampNeg) := inb_of aS13 ⟨by decide, by decide⟩
    have hat13 : cl13.slots[((0 : Int32)).toNatClampNeg]? = some (.double w0) := aH13.at hin13 rfl
    refine Goes.pre (X0.daload hx (j := (0 : Int32)) (v := (.double w0)) (by rw [e0]; exact Ar13.1) (State.isArrayOf_alike hZ.alike Ar13.2.1) Ar13.2.2 hin13 hat13 (g := (mkF m 22 #[.val (.ref it), .val (.int (3 : Int32)), .val (.int (3 : Int32)), .val (.int (0 : Int32))] [(.int (0 : Int32)), (.ref it)])) rfl rfl (hb hby d13_22)) ?_
    show Goes p e below s _ _ _ (s₁.setTop (mkF m 23 #[.val (.ref it), .val (.int (3 : Int32)), .val (.int (3 : Int32)), .val (.int (0 : Int32))] [(.double w0)]))
    refine Goes.ret X0 (some (.double w0)) (fun h => by rw [Bd.returns] at h; cases h) (BodyLoose.notSynchronized Bd) (by decide) (by decide) (fun fs hr => retOut X0 hx (t := .double) Bd.returns rfl (Or.inr (Or.inr (Or.inl ⟨rfl, rfl, _, rfl⟩))) (hb hby d13_23) hr) ?_
    show Q_rm13_0 Z it (3 : Int32) (3 : Int32) kd w0 w1 w2 w3 h0 n0 _ s₁.heap _
    rw [e0]
    exact ⟨(by rw [show own_e (3 : Int32) (3 : Int32) (0 : Int32) w0 w1 w2 w3 = w0 by simp [own_e, own_pick]]), N0, rfl⟩
  · show Goes p e below s _ _ _ (s₁.setTop (mkF m 0 #[.val (.ref it), .val (.int (3 : Int32)), .val (.int (4 : Int32)), .val (.int (0 : Int32))] []))
    refine Goes.pre (fun t kt => XS.iloadN X0.here hx rfl (hb hby d13_0) rfl kt) ?_
    show Goes p e below s _ _ _ (s₁.setTop (mkF m 1 #[.val (.ref it), .val (.int (3 : Int32)), .val (.int (4 : Int32)), .val (.int (0 : Int32))] [(.int (3 : Int32))]))
    refine Goes.pre (fun t kt => XS.iloadN X0.here hx rfl (hb hby d13_1) rfl kt) ?_
    show Goes p e below s _ _ _ (s₁.setTop (mkF m 2 #[.val (.ref it), .val (.int (3 : Int32)), .val (.int (4 : Int32)), .val (.int (0 : Int32))] [(.int (0 : Int32)), (.int (3 : Int32))]))
    refine Goes.pre (fun t kt => XS.icmpYes X0.here hx rfl (pc0 := 2) (pc' := 20) rfl (hb hby d13_2) rfl (Jvm.Free.XT.ii_gt_t ((by decide))) (by decide) (by decide) kt) ?_
    show Goes p e below s _ _ _ (s₁.setTop (mkF m 20 #[.val (.ref it), .val (.int (3 : Int32)), .val (.int (4 : Int32)), .val (.int (0 : Int32))] []))
    refine Goes.pre (fun t kt => XS.aloadN X0.here hx rfl (hb hby d13_20) rfl rfl kt) ?_
    show Goes p e below s _ _ _ (s₁.setTop (mkF m 21 #[.val (.ref it), .val (.int (3 : Int32)), .val (.int (4 : Int32)), .val (.int (0 : Int32))] [(.ref it)]))
    refine Goes.pre (fun t kt => XS.iloadN X0.here hx rfl (hb hby d13_21) rfl kt) ?_
    show Goes p e below s _ _ _ (s₁.setTop (mkF m 22 #[.val (.ref it), .val (.int (3 : Int32)), .val (.int (4 : Int32)), .val (.int (0 : Int32))] [(.int (0 : Int32)), (.ref it)]))
    obtain ⟨cl14, Ar14, aq14, aS14, aN14, aH14, aG14⟩ := pf_V_it
    have V14 : Arv Z h0 it kd .double (4 : Int32) [(.double w0), (.double w1), (.double w2), (.double w3)] (.double (0 : UInt64)) := ⟨cl14, Ar14, aq14, aS14, aN14, aH14, aG14⟩
    have hin14 : ¬ ((0 : Int32) < 0 ∨ cl14.slots.size ≤ ((0 : Int32)).toNatClampNeg) := inb_of aS14 ⟨by decide, by decide⟩
    have hat14 : cl14.slots[((0 : Int32)).toNatClampNeg]? = some (.double w0) := aH14.at hin14 rfl
    refine Goes.pre (X0.daload hx (j := (0 : Int32)) (v := (.double w0)) (by rw [e0]; exact Ar14.1) (State.isArrayOf_alike hZ.alike Ar14.2.1) Ar14.2.2 hin14 hat14 (g := (mkF m 22 #[.val (.ref it), .val (.int (3 : Int32)), .val (.int (4 : Int32)), .val (.int (0 : Int32))] [(.int (0 : Int32)), (.ref it)])) rfl rfl (hb hby d13_22)) ?_
    show Goes p e below s _ _ _ (s₁.setTop (mkF m 23 #[.val (.ref it), .val (.int (3 : Int32)), .val (.int (4 : Int32)), .val (.int (0 : Int32))] [(.double w0)]))
    refine Goes.ret X0 (some (.double w0)) (fun h => by rw [Bd.returns] at h; cases h) (BodyLoose.notSynchronized Bd) (by decide) (by decide) (fun fs hr => retOut X0 hx (t := .double) Bd.returns rfl (Or.inr (Or.inr (Or.inl ⟨rfl, rfl, _, rfl⟩))) (hb hby d13_23) hr) ?_
    show Q_rm13_0 Z it (3 : Int32) (4 : Int32) kd w0 w1 w2 w3 h0 n0 _ s₁.heap _
    rw [e0]
    exact ⟨(by rw [show own_e (3 : Int32) (4 : Int32) (0 : Int32) w0 w1 w2 w3 = w0 by simp [own_e, own_pick]]), N0, rfl⟩
  · show Goes p e below s _ _ _ (s₁.setTop (mkF m 0 #[.val (.ref it), .val (.int (4 : Int32)), .val (.int (4 : Int32)), .val (.int (0 : Int32))] []))
    refine Goes.pre (fun t kt => XS.iloadN X0.here hx rfl (hb hby d13_0) rfl kt) ?_
    show Goes p e below s _ _ _ (s₁.setTop (mkF m 1 #[.val (.ref it), .val (.int (4 : Int32)), .val (.int (4 : Int32)), .val (.int (0 : Int32))] [(.int (4 : Int32))]))
    refine Goes.pre (fun t kt => XS.iloadN X0.here hx rfl (hb hby d13_1) rfl kt) ?_
    show Goes p e below s _ _ _ (s₁.setTop (mkF m 2 #[.val (.ref it), .val (.int (4 : Int32)), .val (.int (4 : Int32)), .val (.int (0 : Int32))] [(.int (0 : Int32)), (.int (4 : Int32))]))
    refine Goes.pre (fun t kt => XS.icmpYes X0.here hx rfl (pc0 := 2) (pc' := 20) rfl (hb hby d13_2) rfl (Jvm.Free.XT.ii_gt_t ((by decide))) (by decide) (by decide) kt) ?_
    show Goes p e below s _ _ _ (s₁.setTop (mkF m 20 #[.val (.ref it), .val (.int (4 : Int32)), .val (.int (4 : Int32)), .val (.int (0 : Int32))] []))
    refine Goes.pre (fun t kt => XS.aloadN X0.here hx rfl (hb hby d13_20) rfl rfl kt) ?_
    show Goes p e below s _ _ _ (s₁.setTop (mkF m 21 #[.val (.ref it), .val (.int (4 : Int32)), .val (.int (4 : Int32)), .val (.int (0 : Int32))] [(.ref it)]))
    refine Goes.pre (fun t kt => XS.iloadN X0.here hx rfl (hb hby d13_21) rfl kt) ?_
    show Goes p e below s _ _ _ (s₁.setTop (mkF m 22 #[.val (.ref it), .val (.int (4 : Int32)), .val (.int (4 : Int32)), .val (.int (0 : Int32))] [(.int (0 : Int32)), (.ref it)]))
    obtain ⟨cl15, Ar15, aq15, aS15, aN15, aH15, aG15⟩ := pf_V_it
    have V15 : Arv Z h0 it kd .double (4 : Int32) [(.double w0), (.double w1), (.double w2), (.double w3)] (.double (0 : UInt64)) := ⟨cl15, Ar15, aq15, aS15, aN15, aH15, aG15⟩
    have hin15 : ¬ ((0 : Int32) < 0 ∨ cl15.slots.size ≤ ((0 : Int32)).toNatClampNeg) := inb_of aS15 ⟨by decide, by decide⟩
    have hat15 : cl15.slots[((0 : Int32)).toNatClampNeg]? = some (.double w0) := aH15.at hin15 rfl
    refine Goes.pre (X0.daload hx (j := (0 : Int32)) (v := (.double w0)) (by rw [e0]; exact Ar15.1) (State.isArrayOf_alike hZ.alike Ar15.2.1) Ar15.2.2 hin15 hat15 (g := (mkF m 22 #[.val (.ref it), .val (.int (4 : Int32)), .val (.int (4 : Int32)), .val (.int (0 : Int32))] [(.int (0 : Int32)), (.ref it)])) rfl rfl (hb hby d13_22)) ?_
    show Goes p e below s _ _ _ (s₁.setTop (mkF m 23 #[.val (.ref it), .val (.int (4 : Int32)), .val (.int (4 : Int32)), .val (.int (0 : Int32))] [(.double w0)]))
    refine Goes.ret X0 (some (.double w0)) (fun h => by rw [Bd.returns] at h; cases h) (BodyLoose.notSynchronized Bd) (by decide) (by decide) (fun fs hr => retOut X0 hx (t := .double) Bd.returns rfl (Or.inr (Or.inr (Or.inl ⟨rfl, rfl, _, rfl⟩))) (hb hby d13_23) hr) ?_
    show Q_rm13_0 Z it (4 : Int32) (4 : Int32) kd w0 w1 w2 w3 h0 n0 _ s₁.heap _
    rw [e0]
    exact ⟨(by rw [show own_e (4 : Int32) (4 : Int32) (0 : Int32) w0 w1 w2 w3 = w0 by simp [own_e, own_pick]]), N0, rfl⟩
def Q_rm13_1 (Z : State) (it : Addr) (lo : Int32) (hi : Int32) (kd : ClassId) (w0 : UInt64) (w1 : UInt64) (w2 : UInt64) (w3 : UInt64) (h0 : Heap) (n0 : Nat) (v : Option Value) (h : Heap) (L : List Loc) : Prop := v = some (.double (own_e lo hi (1 : Int32) w0 w1 w2 w3)) ∧ Fr n0 L ∧ h = h0
theorem ef_rm13_1 (m : MethodId) (it : Addr) (lo : Int32) (hi : Int32) : entryFrame m #[(.ref it), (.int lo), (.int hi), (.int (1 : Int32))] 4 = mkF m 0 #[.val (.ref it), .val (.int lo), .val (.int hi), .val (.int (1 : Int32))] [] := by first | (simp [entryFrame, mkF, argsToLocals, Value.category]; done) | rfl
set_option maxRecDepth 65536 in
set_option maxHeartbeats 40000000 in
theorem rm13_1 (l : Launch) (Z : State) (a0 : Array Value) (hw : ∀ d ∈ tables_1, d.before a0 Z = true) (ws : List Jvm.Cond) (it : Addr) (lo : Int32) (hi : Int32) (kd : ClassId) (w0 : UInt64) (w1 : UInt64) (w2 : UInt64) (w3 : UInt64) (h0 : Heap) (n0 : Nat) (Z0 : n0 ≤ h0.size) (pf_V_it : Arv Z h0 it kd .double (4 : Int32) [(.double w0), (.double w1), (.double w2), (.double w3)] (.double (0 : UInt64))) (hok : own_ok lo hi) :
    MetFree l (⟨"com/example/quantail/quantail/NumberArrayReversePinLaw", "expected", "([DIII)D"⟩ : MethodName) (head1 (Jvm.Cond.code (⟨"com/example/quantail/quantail/NumberArrayReversePinLaw", "expected", "([DIII)D"⟩ : MethodName) method_3_code 4 (some .double) :: ws) ({ frames := 0, cells := 0, slots := 0, locals := 0 } : Room)) (fun a U => a = #[(.ref it), (.int lo), (.int hi), (.int (1 : Int32))] ∧ Z.Warmed39 U.vm ∧ U.heap = h0) (fun _ _ _ _ _ => True) (fun _ U o U' => ∃ v L, o = .returned v ∧ Q_rm13_1 Z it lo hi kd w0 w1 w2 w3 h0 n0 v U'.heap L ∧ FrameEnd U o U' L ({ frames := 0, cells := 0, slots := 0, locals := 0 } : Room).cells ({ frames := 0, cells := 0, slots := 0, locals := 0 } : Room).slots) := by
  refine MetFree.of_bodySF (plainFor_of_name pn_7) hisR ?_
  intro p e s m args below meth c s₁ Bd hml0 hP hK
  obtain ⟨rfl, hZ, hh⟩ := hP
  have hx := Bd.exec
  have hby := Bd.bytes
  have hml : c.maxLocals = 4 := hml0
  have hown : s.vm.findClass "com/example/quantail/quantail/NumberArrayReversePinLaw" = some m.cls := findClass_of_methodNamed Bd.named
  have hnm := (name_of_methodNamed Bd.named Bd.method).1
  have X0 : Stand p l e ({ frames := 0, cells := 0, slots := 0, locals := 0 } : Room) s m #[(.ref it), (.int lo), (.int hi), (.int (1 : Int32))] below meth c s₁ [] 0 0 := Stand.of_body Bd
  have e0 : s₁.heap = h0 := by rw [← hh, Bd.state]; rfl
  have N0 := Fr.nil n0
  show Goes p e below s (Q_rm13_1 Z it lo hi kd w0 w1 w2 w3 h0 n0) ({ frames := 0, cells := 0, slots := 0, locals := 0 } : Room).cells ({ frames := 0, cells := 0, slots := 0, locals := 0 } : Room).slots (s₁.setTop (entryFrame m #[(.ref it), (.int lo), (.int hi), (.int (1 : Int32))] 4))
  refine Goes.pre (fun t kt => castTop (ef_rm13_1 m it lo hi) kt) ?_
  show Goes p e below s _ _ _ (s₁.setTop (mkF m 0 #[.val (.ref it), .val (.int lo), .val (.int hi), .val (.int (1 : Int32))] []))
  rcases hok with ⟨rfl, rfl⟩ | ⟨rfl, rfl⟩ | ⟨rfl, rfl⟩ | ⟨rfl, rfl⟩ | ⟨rfl, rfl⟩ | ⟨rfl, rfl⟩ | ⟨rfl, rfl⟩ | ⟨rfl, rfl⟩ | ⟨rfl, rfl⟩ | ⟨rfl, rfl⟩ | ⟨rfl, rfl⟩ | ⟨rfl, rfl⟩ | ⟨rfl, rfl⟩ | ⟨rfl, rfl⟩ | ⟨rfl, rfl⟩
  · show Goes p e below s _ _ _ (s₁.setTop (mkF m 0 #[.val (.ref it), .val (.int (0 : Int32)), .val (.int (0 : Int32)), .val (.int (1 : Int32))] []))
    refine Goes.pre (fun t kt => XS.iloadN X0.here hx rfl (hb hby d13_0) rfl kt) ?_
    show Goes p e below s _ _ _ (s₁.setTop (mkF m 1 #[.val (.ref it), .val (.int (0 : Int32)), .val (.int (0 : Int32)), .val (.int (1 : Int32))] [(.int (0 : Int32))]))
    refine Goes.pre (fun t kt => XS.iloadN X0.here hx rfl (hb hby d13_1) rfl kt) ?_
    show Goes p e below s _ _ _ (s₁.setTop (mkF m 2 #[.val (.ref it), .val (.int (0 : Int32)), .val (.int (0 : Int32)), .val (.int (1 : Int32))] [(.int (1 : Int32)), (.int (0 : Int32))]))
    refine Goes.pre (fun t kt => XS.icmpNo X0.here hx rfl (hb hby d13_2) rfl (Jvm.Free.XT.ii_gt_f ((by decide))) kt) ?_
    show Goes p e below s _ _ _ (s₁.setTop (mkF m 5 #[.val (.ref it), .val (.int (0 : Int32)), .val (.int (0 : Int32)), .val (.int (1 : Int32))] []))
    refine Goes.pre (fun t kt => XS.iloadN X0.here hx rfl (hb hby d13_5) rfl kt) ?_
    show Goes p e below s _ _ _ (s₁.setTop (mkF m 6 #[.val (.ref it), .val (.int (0 : Int32)), .val (.int (0 : Int32)), .val (.int (1 : Int32))] [(.int (1 : Int32))]))
    refine Goes.pre (fun t kt => XS.iloadN X0.here hx rfl (hb hby d13_6) rfl kt) ?_
    show Goes p e below s _ _ _ (s₁.setTop (mkF m 7 #[.val (.ref it), .val (.int (0 : Int32)), .val (.int (0 : Int32)), .val (.int (1 : Int32))] [(.int (0 : Int32)), (.int (1 : Int32))]))
    refine Goes.pre (fun t kt => XS.icmpYes X0.here hx rfl (pc0 := 7) (pc' := 20) rfl (hb hby d13_7) rfl (Jvm.Free.XT.ii_ge_t ((by decide))) (by decide) (by decide) kt) ?_
    show Goes p e below s _ _ _ (s₁.setTop (mkF m 20 #[.val (.ref it), .val (.int (0 : Int32)), .val (.int (0 : Int32)), .val (.int (1 : Int32))] []))
    refine Goes.pre (fun t kt => XS.aloadN X0.here hx rfl (hb hby d13_20) rfl rfl kt) ?_
    show Goes p e below s _ _ _ (s₁.setTop (mkF m 21 #[.val (.ref it), .val (.int (0 : Int32)), .val (.int (0 : Int32)), .val (.int (1 : Int32))] [(.ref it)]))
    refine Goes.pre (fun t kt => XS.iloadN X0.here hx rfl (hb hby d13_21) rfl kt) ?_
    show Goes p e below s _ _ _ (s₁.setTop (mkF m 22 #[.val (.ref it), .val (.int (0 : Int32)), .val (.int (0 : Int32)), .val (.int (1 : Int32))] [(.int (1 : Int32)), (.ref it)]))
    obtain ⟨cl1, Ar1, aq1, aS1, aN1, aH1, aG1⟩ := pf_V_it
    have V1 : Arv Z h0 it kd .double (4 : Int32) [(.double w0), (.double w1), (.double w2), (.double w3)] (.double (0 : UInt64)) := ⟨cl1, Ar1, aq1, aS1, aN1, aH1, aG1⟩
    have hin1 : ¬ ((1 : Int32) < 0 ∨ cl1.slots.size ≤ ((1 : Int32)).toNatClampNeg) := inb_of aS1 ⟨by decide, by decide⟩
    have hat1 : cl1.slots[((1 : Int32)).toNatClampNeg]? = some (.double w1) := aH1.at hin1 rfl
    refine Goes.pre (X0.daload hx (j := (1 : Int32)) (v := (.double w1)) (by rw [e0]; exact Ar1.1) (State.isArrayOf_alike hZ.alike Ar1.2.1) Ar1.2.2 hin1 hat1 (g := (mkF m 22 #[.val (.ref it), .val (.int (0 : Int32)), .val (.int (0 : Int32)), .val (.int (1 : Int32))] [(.int (1 : Int32)), (.ref it)])) rfl rfl (hb hby d13_22)) ?_
    show Goes p e below s _ _ _ (s₁.setTop (mkF m 23 #[.val (.ref it), .val (.int (0 : Int32)), .val (.int (0 : Int32)), .val (.int (1 : Int32))] [(.double w1)]))
    refine Goes.ret X0 (some (.double w1)) (fun h => by rw [Bd.returns] at h; cases h) (BodyLoose.notSynchronized Bd) (by decide) (by decide) (fun fs hr => retOut X0 hx (t := .double) Bd.returns rfl (Or.inr (Or.inr (Or.inl ⟨rfl, rfl, _, rfl⟩))) (hb hby d13_23) hr) ?_
    show Q_rm13_1 Z it (0 : Int32) (0 : Int32) kd w0 w1 w2 w3 h0 n0 _ s₁.heap _
    rw [e0]
    exact ⟨(by rw [show own_e (0 : Int32) (0 : Int32) (1 : Int32) w0 w1 w2 w3 = w1 by simp [own_e, own_pick]]), N0, rfl⟩
  · show Goes p e below s _ _ _ (s₁.setTop (mkF m 0 #[.val (.ref it), .val (.int (0 : Int32)), .val (.int (1 : Int32)), .val (.int (1 : Int32))] []))
    refine Goes.pre (fun t kt => XS.iloadN X0.here hx rfl (hb hby d13_0) rfl kt) ?_
    show Goes p e below s _ _ _ (s₁.setTop (mkF m 1 #[.val (.ref it), .val (.int (0 : Int32)), .val (.int (1 : Int32)), .val (.int (1 : Int32))] [(.int (0 : Int32))]))
    refine Goes.pre (fun t kt => XS.iloadN X0.here hx rfl (hb hby d13_1) rfl kt) ?_
    show Goes p e below s _ _ _ (s₁.setTop (mkF m 2 #[.val (.ref it), .val (.int (0 : Int32)), .val (.int (1 : Int32)), .val (.int (1 : Int32))] [(.int (1 : Int32)), (.int (0 : Int32))]))
    refine Goes.pre (fun t kt => XS.icmpNo X0.here hx rfl (hb hby d13_2) rfl (Jvm.Free.XT.ii_gt_f ((by decide))) kt) ?_
    show Goes p e below s _ _ _ (s₁.setTop (mkF m 5 #[.val (.ref it), .val (.int (0 : Int32)), .val (.int (1 : Int32)), .val (.int (1 : Int32))] []))
    refine Goes.pre (fun t kt => XS.iloadN X0.here hx rfl (hb hby d13_5) rfl kt) ?_
    show Goes p e below s _ _ _ (s₁.setTop (mkF m 6 #[.val (.ref it), .val (.int (0 : Int32)), .val (.int (1 : Int32)), .val (.int (1 : Int32))] [(.int (1 : Int32))]))
    refine Goes.pre (fun t kt => XS.iloadN X0.here hx rfl (hb hby d13_6) rfl kt) ?_
    show Goes p e below s _ _ _ (s₁.setTop (mkF m 7 #[.val (.ref it), .val (.int (0 : Int32)), .val (.int (1 : Int32)), .val (.int (1 : Int32))] [(.int (1 : Int32)), (.int (1 : Int32))]))
    refine Goes.pre (fun t kt => XS.icmpYes X0.here hx rfl (pc0 := 7) (pc' := 20) rfl (hb hby d13_7) rfl (Jvm.Free.XT.ii_ge_t ((by decide))) (by decide) (by decide) kt) ?_
    show Goes p e below s _ _ _ (s₁.setTop (mkF m 20 #[.val (.ref it), .val (.int (0 : Int32)), .val (.int (1 : Int32)), .val (.int (1 : Int32))] []))
    refine Goes.pre (fun t kt => XS.aloadN X0.here hx rfl (hb hby d13_20) rfl rfl kt) ?_
    show Goes p e below s _ _ _ (s₁.setTop (mkF m 21 #[.val (.ref it), .val (.int (0 : Int32)), .val (.int (1 : Int32)), .val (.int (1 : Int32))] [(.ref it)]))
    refine Goes.pre (fun t kt => XS.iloadN X0.here hx rfl (hb hby d13_21) rfl kt) ?_
    show Goes p e below s _ _ _ (s₁.setTop (mkF m 22 #[.val (.ref it), .val (.int (0 : Int32)), .val (.int (1 : Int32)), .val (.int (1 : Int32))] [(.int (1 : Int32)), (.ref it)]))
    obtain ⟨cl2, Ar2, aq2, aS2, aN2, aH2, aG2⟩ := pf_V_it
    have V2 : Arv Z h0 it kd .double (4 : Int32) [(.double w0), (.double w1), (.double w2), (.double w3)] (.double (0 : UInt64)) := ⟨cl2, Ar2, aq2, aS2, aN2, aH2, aG2⟩
    have hin2 : ¬ ((1 : Int32) < 0 ∨ cl2.slots.size ≤ ((1 : Int32)).toNatClampNeg) := inb_of aS2 ⟨by decide, by decide⟩
    have hat2 : cl2.slots[((1 : Int32)).toNatClampNeg]? = some (.double w1) := aH2.at hin2 rfl
    refine Goes.pre (X0.daload hx (j := (1 : Int32)) (v := (.double w1)) (by rw [e0]; exact Ar2.1) (State.isArrayOf_alike hZ.alike Ar2.2.1) Ar2.2.2 hin2 hat2 (g := (mkF m 22 #[.val (.ref it), .val (.int (0 : Int32)), .val (.int (1 : Int32)), .val (.int (1 : Int32))] [(.int (1 : Int32)), (.ref it)])) rfl rfl (hb hby d13_22)) ?_
    show Goes p e below s _ _ _ (s₁.setTop (mkF m 23 #[.val (.ref it), .val (.int (0 : Int32)), .val (.int (1 : Int32)), .val (.int (1 : Int32))] [(.double w1)]))
    refine Goes.ret X0 (some (.double w1)) (fun h => by rw [Bd.returns] at h; cases h) (BodyLoose.notSynchronized Bd) (by decide) (by decide) (fun fs hr => retOut X0 hx (t := .double) Bd.returns rfl (Or.inr (Or.inr (Or.inl ⟨rfl, rfl, _, rfl⟩))) (hb hby d13_23) hr) ?_
    show Q_rm13_1 Z it (0 : Int32) (1 : Int32) kd w0 w1 w2 w3 h0 n0 _ s₁.heap _
    rw [e0]
    exact ⟨(by rw [show own_e (0 : Int32) (1 : Int32) (1 : Int32) w0 w1 w2 w3 = w1 by simp [own_e, own_pick]]), N0, rfl⟩
  · show Goes p e below s _ _ _ (s₁.setTop (mkF m 0 #[.val (.ref it), .val (.int (0 : Int32)), .val (.int (2 : Int32)), .val (.int (1 : Int32))] []))
    refine Goes.pre (fun t kt => XS.iloadN X0.here hx rfl (hb hby d13_0) rfl kt) ?_
    show Goes p e below s _ _ _ (s₁.setTop (mkF m 1 #[.val (.ref it), .val (.int (0 : Int32)), .val (.int (2 : Int32)), .val (.int (1 : Int32))] [(.int (0 : Int32))]))
    refine Goes.pre (fun t kt => XS.iloadN X0.here hx rfl (hb hby d13_1) rfl kt) ?_
    show Goes p e below s _ _ _ (s₁.setTop (mkF m 2 #[.val (.ref it), .val (.int (0 : Int32)), .val (.int (2 : Int32)), .val (.int (1 : Int32))] [(.int (1 : Int32)), (.int (0 : Int32))]))
    refine Goes.pre (fun t kt => XS.icmpNo X0.here hx rfl (hb hby d13_2) rfl (Jvm.Free.XT.ii_gt_f ((by decide))) kt) ?_
    show Goes p e below s _ _ _ (s₁.setTop (mkF m 5 #[.val (.ref it), .val (.int (0 : Int32)), .val (.int (2 : Int32)), .val (.int (1 : Int32))] []))
    refine Goes.pre (fun t kt => XS.iloadN X0.here hx rfl (hb hby d13_5) rfl kt) ?_
    show Goes p e below s _ _ _ (s₁.setTop (mkF m 6 #[.val (.ref it), .val (.int (0 : Int32)), .val (.int (2 : Int32)), .val (.int (1 : Int32))] [(.int (1 : Int32))]))
    refine Goes.pre (fun t kt => XS.iloadN X0.here hx rfl (hb hby d13_6) rfl kt) ?_
    show Goes p e below s _ _ _ (s₁.setTop (mkF m 7 #[.val (.ref it), .val (.int (0 : Int32)), .val (.int (2 : Int32)), .val (.int (1 : Int32))] [(.int (2 : Int32)), (.int (1 : Int32))]))
    refine Goes.pre (fun t kt => XS.icmpNo X0.here hx rfl (hb hby d13_7) rfl (Jvm.Free.XT.ii_ge_f ((by decide))) kt) ?_
    show Goes p e below s _ _ _ (s₁.setTop (mkF m 10 #[.val (.ref it), .val (.int (0 : Int32)), .val (.int (2 : Int32)), .val (.int (1 : Int32))] []))
    refine Goes.pre (fun t kt => XS.aloadN X0.here hx rfl (hb hby d13_10) rfl rfl kt) ?_
    show Goes p e below s _ _ _ (s₁.setTop (mkF m 11 #[.val (.ref it), .val (.int (0 : Int32)), .val (.int (2 : Int32)), .val (.int (1 : Int32))] [(.ref it)]))
    refine Goes.pre (fun t kt => XS.iloadN X0.here hx rfl (hb hby d13_11) rfl kt) ?_
    show Goes p e below s _ _ _ (s₁.setTop (mkF m 12 #[.val (.ref it), .val (.int (0 : Int32)), .val (.int (2 : Int32)), .val (.int (1 : Int32))] [(.int (0 : Int32)), (.ref it)]))
    refine Goes.pre (fun t kt => XS.iloadN X0.here hx rfl (hb hby d13_12) rfl kt) ?_
    show Goes p e below s _ _ _ (s₁.setTop (mkF m 13 #[.val (.ref it), .val (.int (0 : Int32)), .val (.int (2 : Int32)), .val (.int (1 : Int32))] [(.int (2 : Int32)), (.int (0 : Int32)), (.ref it)]))
    refine Goes.pre (fun t kt => XS.iadd X0.here hx rfl (hb hby d13_13) rfl kt) ?_
    show Goes p e below s _ _ _ (s₁.setTop (mkF m 14 #[.val (.ref it), .val (.int (0 : Int32)), .val (.int (2 : Int32)), .val (.int (1 : Int32))] [(.int (2 : Int32)), (.ref it)]))
    refine Goes.pre (fun t kt => XS.iconst X0.here hx rfl (hb hby d13_14) kt) ?_
    show Goes p e below s _ _ _ (s₁.setTop (mkF m 15 #[.val (.ref it), .val (.int (0 : Int32)), .val (.int (2 : Int32)), .val (.int (1 : Int32))] [(.int (1 : Int32)), (.int (2 : Int32)), (.ref it)]))
    refine Goes.pre (fun t kt => XS.isub X0.here hx rfl (hb hby d13_15) rfl kt) ?_
    show Goes p e below s _ _ _ (s₁.setTop (mkF m 16 #[.val (.ref it), .val (.int (0 : Int32)), .val (.int (2 : Int32)), .val (.int (1 : Int32))] [(.int (1 : Int32)), (.ref it)]))
    refine Goes.pre (fun t kt => XS.iloadN X0.here hx rfl (hb hby d13_16) rfl kt) ?_
    show Goes p e below s _ _ _ (s₁.setTop (mkF m 17 #[.val (.ref it), .val (.int (0 : Int32)), .val (.int (2 : Int32)), .val (.int (1 : Int32))] [(.int (1 : Int32)), (.int (1 : Int32)), (.ref it)]))
    refine Goes.pre (fun t kt => XS.isub X0.here hx rfl (hb hby d13_17) rfl kt) ?_
    show Goes p e below s _ _ _ (s₁.setTop (mkF m 18 #[.val (.ref it), .val (.int (0 : Int32)), .val (.int (2 : Int32)), .val (.int (1 : Int32))] [(.int (0 : Int32)), (.ref it)]))
    obtain ⟨cl3, Ar3, aq3, aS3, aN3, aH3, aG3⟩ := pf_V_it
    have V3 : Arv Z h0 it kd .double (4 : Int32) [(.double w0), (.double w1), (.double w2), (.double w3)] (.double (0 : UInt64)) := ⟨cl3, Ar3, aq3, aS3, aN3, aH3, aG3⟩
    have hin3 : ¬ ((0 : Int32) < 0 ∨ cl3.slots.size ≤ ((0 : Int32)).toNatClampNeg) := inb_of aS3 ⟨by decide, by decide⟩
    have hat3 : cl3.slots[((0 : Int32)).toNatClampNeg]? = some (.double w0) := aH3.at hin3 rfl
    refine Goes.pre (X0.daload hx (j := (0 : Int32)) (v := (.double w0)) (by rw [e0]; exact Ar3.1) (State.isArrayOf_alike hZ.alike Ar3.2.1) Ar3.2.2 hin3 hat3 (g := (mkF m 18 #[.val (.ref it), .val (.int (0 : Int32)), .val (.int (2 : Int32)), .val (.int (1 : Int32))] [(.int (0 : Int32)), (.ref it)])) rfl rfl (hb hby d13_18)) ?_
    show Goes p e below s _ _ _ (s₁.setTop (mkF m 19 #[.val (.ref it), .val (.int (0 : Int32)), .val (.int (2 : Int32)), .val (.int (1 : Int32))] [(.double w0)]))
    refine Goes.ret X0 (some (.double w0)) (fun h => by rw [Bd.returns] at h; cases h) (BodyLoose.notSynchronized Bd) (by decide) (by decide) (fun fs hr => retOut X0 hx (t := .double) Bd.returns rfl (Or.inr (Or.inr (Or.inl ⟨rfl, rfl, _, rfl⟩))) (hb hby d13_19) hr) ?_
    show Q_rm13_1 Z it (0 : Int32) (2 : Int32) kd w0 w1 w2 w3 h0 n0 _ s₁.heap _
    rw [e0]
    exact ⟨(by rw [show own_e (0 : Int32) (2 : Int32) (1 : Int32) w0 w1 w2 w3 = w0 by simp [own_e, own_pick]]), N0, rfl⟩
  · show Goes p e below s _ _ _ (s₁.setTop (mkF m 0 #[.val (.ref it), .val (.int (0 : Int32)), .val (.int (3 : Int32)), .val (.int (1 : Int32))] []))
    refine Goes.pre (fun t kt => XS.iloadN X0.here hx rfl (hb hby d13_0) rfl kt) ?_
    show Goes p e below s _ _ _ (s₁.setTop (mkF m 1 #[.val (.ref it), .val (.int (0 : Int32)), .val (.int (3 : Int32)), .val (.int (1 : Int32))] [(.int (0 : Int32))]))
    refine Goes.pre (fun t kt => XS.iloadN X0.here hx rfl (hb hby d13_1) rfl kt) ?_
    show Goes p e below s _ _ _ (s₁.setTop (mkF m 2 #[.val (.ref it), .val (.int (0 : Int32)), .val (.int (3 : Int32)), .val (.int (1 : Int32))] [(.int (1 : Int32)), (.int (0 : Int32))]))
    refine Goes.pre (fun t kt => XS.icmpNo X0.here hx rfl (hb hby d13_2) rfl (Jvm.Free.XT.ii_gt_f ((by decide))) kt) ?_
    show Goes p e below s _ _ _ (s₁.setTop (mkF m 5 #[.val (.ref it), .val (.int (0 : Int32)), .val (.int (3 : Int32)), .val (.int (1 : Int32))] []))
    refine Goes.pre (fun t kt => XS.iloadN X0.here hx rfl (hb hby d13_5) rfl kt) ?_
    show Goes p e below s _ _ _ (s₁.setTop (mkF m 6 #[.val (.ref it), .val (.int (0 : Int32)), .val (.int (3 : Int32)), .val (.int (1 : Int32))] [(.int (1 : Int32))]))
    refine Goes.pre (fun t kt => XS.iloadN X0.here hx rfl (hb hby d13_6) rfl kt) ?_
    show Goes p e below s _ _ _ (s₁.setTop (mkF m 7 #[.val (.ref it), .val (.int (0 : Int32)), .val (.int (3 : Int32)), .val (.int (1 : Int32))] [(.int (3 : Int32)), (.int (1 : Int32))]))
    refine Goes.pre (fun t kt => XS.icmpNo X0.here hx rfl (hb hby d13_7) rfl (Jvm.Free.XT.ii_ge_f ((by decide))) kt) ?_
    show Goes p e below s _ _ _ (s₁.setTop (mkF m 10 #[.val (.ref it), .val (.int (0 : Int32)), .val (.int (3 : Int32)), .val (.int (1 : Int32))] []))
    refine Goes.pre (fun t kt => XS.aloadN X0.here hx rfl (hb hby d13_10) rfl rfl kt) ?_
    show Goes p e below s _ _ _ (s₁.setTop (mkF m 11 #[.val (.ref it), .val (.int (0 : Int32)), .val (.int (3 : Int32)), .val (.int (1 : Int32))] [(.ref it)]))
    refine Goes.pre (fun t kt => XS.iloadN X0.here hx rfl (hb hby d13_11) rfl kt) ?_
    show Goes p e below s _ _ _ (s₁.setTop (mkF m 12 #[.val (.ref it), .val (.int (0 : Int32)), .val (.int (3 : Int32)), .val (.int (1 : Int32))] [(.int (0 : Int32)), (.ref it)]))
    refine Goes.pre (fun t kt => XS.iloadN X0.here hx rfl (hb hby d13_12) rfl kt) ?_
    show Goes p e below s _ _ _ (s₁.setTop (mkF m 13 #[.val (.ref it), .val (.int (0 : Int32)), .val (.int (3 : Int32)), .val (.int (1 : Int32))] [(.int (3 : Int32)), (.int (0 : Int32)), (.ref it)]))
    refine Goes.pre (fun t kt => XS.iadd X0.here hx rfl (hb hby d13_13) rfl kt) ?_
    show Goes p e below s _ _ _ (s₁.setTop (mkF m 14 #[.val (.ref it), .val (.int (0 : Int32)), .val (.int (3 : Int32)), .val (.int (1 : Int32))] [(.int (3 : Int32)), (.ref it)]))
    refine Goes.pre (fun t kt => XS.iconst X0.here hx rfl (hb hby d13_14) kt) ?_
    show Goes p e below s _ _ _ (s₁.setTop (mkF m 15 #[.val (.ref it), .val (.int (0 : Int32)), .val (.int (3 : Int32)), .val (.int (1 : Int32))] [(.int (1 : Int32)), (.int (3 : Int32)), (.ref it)]))
    refine Goes.pre (fun t kt => XS.isub X0.here hx rfl (hb hby d13_15) rfl kt) ?_
    show Goes p e below s _ _ _ (s₁.setTop (mkF m 16 #[.val (.ref it), .val (.int (0 : Int32)), .val (.int (3 : Int32)), .val (.int (1 : Int32))] [(.int (2 : Int32)), (.ref it)]))
    refine Goes.pre (fun t kt => XS.iloadN X0.here hx rfl (hb hby d13_16) rfl kt) ?_
    show Goes p e below s _ _ _ (s₁.setTop (mkF m 17 #[.val (.ref it), .val (.int (0 : Int32)), .val (.int (3 : Int32)), .val (.int (1 : Int32))] [(.int (1 : Int32)), (.int (2 : Int32)), (.ref it)]))
    refine Goes.pre (fun t kt => XS.isub X0.here hx rfl (hb hby d13_17) rfl kt) ?_
    show Goes p e below s _ _ _ (s₁.setTop (mkF m 18 #[.val (.ref it), .val (.int (0 : Int32)), .val (.int (3 : Int32)), .val (.int (1 : Int32))] [(.int (1 : Int32)), (.ref it)]))
    obtain ⟨cl4, Ar4, aq4, aS4, aN4, aH4, aG4⟩ := pf_V_it
    have V4 : Arv Z h0 it kd .double (4 : Int32) [(.double w0), (.double w1), (.double w2), (.double w3)] (.double (0 : UInt64)) := ⟨cl4, Ar4, aq4, aS4, aN4, aH4, aG4⟩
    have hin4 : ¬ ((1 : Int32) < 0 ∨ cl4.slots.size ≤ ((1 : Int32)).toNatClampNeg) := inb_of aS4 ⟨by decide, by decide⟩
    have hat4 : cl4.slots[((1 : Int32)).toNatClampNeg]? = some (.double w1) := aH4.at hin4 rfl
    refine Goes.pre (X0.daload hx (j := (1 : Int32)) (v := (.double w1)) (by rw [e0]; exact Ar4.1) (State.isArrayOf_alike hZ.alike Ar4.2.1) Ar4.2.2 hin4 hat4 (g := (mkF m 18 #[.val (.ref it), .val (.int (0 : Int32)), .val (.int (3 : Int32)), .val (.int (1 : Int32))] [(.int (1 : Int32)), (.ref it)])) rfl rfl (hb hby d13_18)) ?_
    show Goes p e below s _ _ _ (s₁.setTop (mkF m 19 #[.val (.ref it), .val (.int (0 : Int32)), .val (.int (3 : Int32)), .val (.int (1 : Int32))] [(.double w1)]))
    refine Goes.ret X0 (some (.double w1)) (fun h => by rw [Bd.returns] at h; cases h) (BodyLoose.notSynchronized Bd) (by decide) (by decide) (fun fs hr => retOut X0 hx (t := .double) Bd.returns rfl (Or.inr (Or.inr (Or.inl ⟨rfl, rfl, _, rfl⟩))) (hb hby d13_19) hr) ?_
    show Q_rm13_1 Z it (0 : Int32) (3 : Int32) kd w0 w1 w2 w3 h0 n0 _ s₁.heap _
    rw [e0]
    exact ⟨(by rw [show own_e (0 : Int32) (3 : Int32) (1 : Int32) w0 w1 w2 w3 = w1 by simp [own_e, own_pick]]), N0, rfl⟩
  · show Goes p e below s _ _ _ (s₁.setTop (mkF m 0 #[.val (.ref it), .val (.int (0 : Int32)), .val (.int (4 : Int32)), .val (.int (1 : Int32))] []))
    refine Goes.pre (fun t kt => XS.iloadN X0.here hx rfl (hb hby d13_0) rfl kt) ?_
    show Goes p e below s _ _ _ (s₁.setTop (mkF m 1 #[.val (.ref it), .val (.int (0 : Int32)), .val (.int (4 : Int32)), .val (.int (1 : Int32))] [(.int (0 : Int32))]))
    refine Goes.pre (fun t kt => XS.iloadN X0.here hx rfl (hb hby d13_1) rfl kt) ?_
    show Goes p e below s _ _ _ (s₁.setTop (mkF m 2 #[.val (.ref it), .val (.int (0 : Int32)), .val (.int (4 : Int32)), .val (.int (1 : Int32))] [(.int (1 : Int32)), (.int (0 : Int32))]))
    refine Goes.pre (fun t kt => XS.icmpNo X0.here hx rfl (hb hby d13_2) rfl (Jvm.Free.XT.ii_gt_f ((by decide))) kt) ?_
    show Goes p e below s _ _ _ (s₁.setTop (mkF m 5 #[.val (.ref it), .val (.int (0 : Int32)), .val (.int (4 : Int32)), .val (.int (1 : Int32))] []))
    refine Goes.pre (fun t kt => XS.iloadN X0.here hx rfl (hb hby d13_5) rfl kt) ?_
    show Goes p e below s _ _ _ (s₁.setTop (mkF m 6 #[.val (.ref it), .val (.int (0 : Int32)), .val (.int (4 : Int32)), .val (.int (1 : Int32))] [(.int (1 : Int32))]))
    refine Goes.pre (fun t kt => XS.iloadN X0.here hx rfl (hb hby d13_6) rfl kt) ?_
    show Goes p e below s _ _ _ (s₁.setTop (mkF m 7 #[.val (.ref it), .val (.int (0 : Int32)), .val (.int (4 : Int32)), .val (.int (1 : Int32))] [(.int (4 : Int32)), (.int (1 : Int32))]))
    refine Goes.pre (fun t kt => XS.icmpNo X0.here hx rfl (hb hby d13_7) rfl (Jvm.Free.XT.ii_ge_f ((by decide))) kt) ?_
    show Goes p e below s _ _ _ (s₁.setTop (mkF m 10 #[.val (.ref it), .val (.int (0 : Int32)), .val (.int (4 : Int32)), .val (.int (1 : Int32))] []))
    refine Goes.pre (fun t kt => XS.aloadN X0.here hx rfl (hb hby d13_10) rfl rfl kt) ?_
    show Goes p e below s _ _ _ (s₁.setTop (mkF m 11 #[.val (.ref it), .val (.int (0 : Int32)), .val (.int (4 : Int32)), .val (.int (1 : Int32))] [(.ref it)]))
    refine Goes.pre (fun t kt => XS.iloadN X0.here hx rfl (hb hby d13_11) rfl kt) ?_
    show Goes p e below s _ _ _ (s₁.setTop (mkF m 12 #[.val (.ref it), .val (.int (0 : Int32)), .val (.int (4 : Int32)), .val (.int (1 : Int32))] [(.int (0 : Int32)), (.ref it)]))
    refine Goes.pre (fun t kt => XS.iloadN X0.here hx rfl (hb hby d13_12) rfl kt) ?_
    show Goes p e below s _ _ _ (s₁.setTop (mkF m 13 #[.val (.ref it), .val (.int (0 : Int32)), .val (.int (4 : Int32)), .val (.int (1 : Int32))] [(.int (4 : Int32)), (.int (0 : Int32)), (.ref it)]))
    refine Goes.pre (fun t kt => XS.iadd X0.here hx rfl (hb hby d13_13) rfl kt) ?_
    show Goes p e below s _ _ _ (s₁.setTop (mkF m 14 #[.val (.ref it), .val (.int (0 : Int32)), .val (.int (4 : Int32)), .val (.int (1 : Int32))] [(.int (4 : Int32)), (.ref it)]))
    refine Goes.pre (fun t kt => XS.iconst X0.here hx rfl (hb hby d13_14) kt) ?_
    show Goes p e below s _ _ _ (s₁.setTop (mkF m 15 #[.val (.ref it), .val (.int (0 : Int32)), .val (.int (4 : Int32)), .val (.int (1 : Int32))] [(.int (1 : Int32)), (.int (4 : Int32)), (.ref it)]))
    refine Goes.pre (fun t kt => XS.isub X0.here hx rfl (hb hby d13_15) rfl kt) ?_
    show Goes p e below s _ _ _ (s₁.setTop (mkF m 16 #[.val (.ref it), .val (.int (0 : Int32)), .val (.int (4 : Int32)), .val (.int (1 : Int32))] [(.int (3 : Int32)), (.ref it)]))
    refine Goes.pre (fun t kt => XS.iloadN X0.here hx rfl (hb hby d13_16) rfl kt) ?_
    show Goes p e below s _ _ _ (s₁.setTop (mkF m 17 #[.val (.ref it), .val (.int (0 : Int32)), .val (.int (4 : Int32)), .val (.int (1 : Int32))] [(.int (1 : Int32)), (.int (3 : Int32)), (.ref it)]))
    refine Goes.pre (fun t kt => XS.isub X0.here hx rfl (hb hby d13_17) rfl kt) ?_
    show Goes p e below s _ _ _ (s₁.setTop (mkF m 18 #[.val (.ref it), .val (.int (0 : Int32)), .val (.int (4 : Int32)), .val (.int (1 : Int32))] [(.int (2 : Int32)), (.ref it)]))
    obtain ⟨cl5, Ar5, aq5, aS5, aN5, aH5, aG5⟩ := pf_V_it
    have V5 : Arv Z h0 it kd .double (4 : Int32) [(.double w0), (.double w1), (.double w2), (.double w3)] (.double (0 : UInt64)) := ⟨cl5, Ar5, aq5, aS5, aN5, aH5, aG5⟩
    have hin5 : ¬ ((2 : Int32) < 0 ∨ cl5.slots.size ≤ ((2 : Int32)).toNatClampNeg) := inb_of aS5 ⟨by decide, by decide⟩
    have hat5 : cl5.slots[((2 : Int32)).toNatClampNeg]? = some (.double w2) := aH5.at hin5 rfl
    refine Goes.pre (X0.daload hx (j := (2 : Int32)) (v := (.double w2)) (by rw [e0]; exact Ar5.1) (State.isArrayOf_alike hZ.alike Ar5.2.1) Ar5.2.2 hin5 hat5 (g := (mkF m 18 #[.val (.ref it), .val (.int (0 : Int32)), .val (.int (4 : Int32)), .val (.int (1 : Int32))] [(.int (2 : Int32)), (.ref it)])) rfl rfl (hb hby d13_18)) ?_
    show Goes p e below s _ _ _ (s₁.setTop (mkF m 19 #[.val (.ref it), .val (.int (0 : Int32)), .val (.int (4 : Int32)), .val (.int (1 : Int32))] [(.double w2)]))
    refine Goes.ret X0 (some (.double w2)) (fun h => by rw [Bd.returns] at h; cases h) (BodyLoose.notSynchronized Bd) (by decide) (by decide) (fun fs hr => retOut X0 hx (t := .double) Bd.returns rfl (Or.inr (Or.inr (Or.inl ⟨rfl, rfl, _, rfl⟩))) (hb hby d13_19) hr) ?_
    show Q_rm13_1 Z it (0 : Int32) (4 : Int32) kd w0 w1 w2 w3 h0 n0 _ s₁.heap _
    rw [e0]
    exact ⟨(by rw [show own_e (0 : Int32) (4 : Int32) (1 : Int32) w0 w1 w2 w3 = w2 by simp [own_e, own_pick]]), N0, rfl⟩
  · show Goes p e below s _ _ _ (s₁.setTop (mkF m 0 #[.val (.ref it), .val (.int (1 : Int32)), .val (.int (1 : Int32)), .val (.int (1 : Int32))] []))
    refine Goes.pre (fun t kt => XS.iloadN X0.here hx rfl (hb hby d13_0) rfl kt) ?_
    show Goes p e below s _ _ _ (s₁.setTop (mkF m 1 #[.val (.ref it), .val (.int (1 : Int32)), .val (.int (1 : Int32)), .val (.int (1 : Int32))] [(.int (1 : Int32))]))
    refine Goes.pre (fun t kt => XS.iloadN X0.here hx rfl (hb hby d13_1) rfl kt) ?_
    show Goes p e below s _ _ _ (s₁.setTop (mkF m 2 #[.val (.ref it), .val (.int (1 : Int32)), .val (.int (1 : Int32)), .val (.int (1 : Int32))] [(.int (1 : Int32)), (.int (1 : Int32))]))
    refine Goes.pre (fun t kt => XS.icmpNo X0.here hx rfl (hb hby d13_2) rfl (Jvm.Free.XT.ii_gt_f ((by decide))) kt) ?_
    show Goes p e below s _ _ _ (s₁.setTop (mkF m 5 #[.val (.ref it), .val (.int (1 : Int32)), .val (.int (1 : Int32)), .val (.int (1 : Int32))] []))
    refine Goes.pre (fun t kt => XS.iloadN X0.here hx rfl (hb hby d13_5) rfl kt) ?_
    show Goes p e below s _ _ _ (s₁.setTop (mkF m 6 #[.val (.ref it), .val (.int (1 : Int32)), .val (.int (1 : Int32)), .val (.int (1 : Int32))] [(.int (1 : Int32))]))
    refine Goes.pre (fun t kt => XS.iloadN X0.here hx rfl (hb hby d13_6) rfl kt) ?_
    show Goes p e below s _ _ _ (s₁.setTop (mkF m 7 #[.val (.ref it), .val (.int (1 : Int32)), .val (.int (1 : Int32)), .val (.int (1 : Int32))] [(.int (1 : Int32)), (.int (1 : Int32))]))
    refine Goes.pre (fun t kt => XS.icmpYes X0.here hx rfl (pc0 := 7) (pc' := 20) rfl (hb hby d13_7) rfl (Jvm.Free.XT.ii_ge_t ((by decide))) (by decide) (by decide) kt) ?_
    show Goes p e below s _ _ _ (s₁.setTop (mkF m 20 #[.val (.ref it), .val (.int (1 : Int32)), .val (.int (1 : Int32)), .val (.int (1 : Int32))] []))
    refine Goes.pre (fun t kt => XS.aloadN X0.here hx rfl (hb hby d13_20) rfl rfl kt) ?_
    show Goes p e below s _ _ _ (s₁.setTop (mkF m 21 #[.val (.ref it), .val (.int (1 : Int32)), .val (.int (1 : Int32)), .val (.int (1 : Int32))] [(.ref it)]))
    refine Goes.pre (fun t kt => XS.iloadN X0.here hx rfl (hb hby d13_21) rfl kt) ?_
    show Goes p e below s _ _ _ (s₁.setTop (mkF m 22 #[.val (.ref it), .val (.int (1 : Int32)), .val (.int (1 : Int32)), .val (.int (1 : Int32))] [(.int (1 : Int32)), (.ref it)]))
    obtain ⟨cl6, Ar6, aq6, aS6, aN6, aH6, aG6⟩ := pf_V_it
    have V6 : Arv Z h0 it kd .double (4 : Int32) [(.double w0), (.double w1), (.double w2), (.double w3)] (.double (0 : UInt64)) := ⟨cl6, Ar6, aq6, aS6, aN6, aH6, aG6⟩
    have hin6 : ¬ ((1 : Int32) < 0 ∨ cl6.slots.size ≤ ((1 : Int32)).toNatClampNeg) := inb_of aS6 ⟨by decide, by decide⟩
    have hat6 : cl6.slots[((1 : Int32)).toNatClampNeg]? = some (.double w1) := aH6.at hin6 rfl
    refine Goes.pre (X0.daload hx (j := (1 : Int32)) (v := (.double w1)) (by rw [e0]; exact Ar6.1) (State.isArrayOf_alike hZ.alike Ar6.2.1) Ar6.2.2 hin6 hat6 (g := (mkF m 22 #[.val (.ref it), .val (.int (1 : Int32)), .val (.int (1 : Int32)), .val (.int (1 : Int32))] [(.int (1 : Int32)), (.ref it)])) rfl rfl (hb hby d13_22)) ?_
    show Goes p e below s _ _ _ (s₁.setTop (mkF m 23 #[.val (.ref it), .val (.int (1 : Int32)), .val (.int (1 : Int32)), .val (.int (1 : Int32))] [(.double w1)]))
    refine Goes.ret X0 (some (.double w1)) (fun h => by rw [Bd.returns] at h; cases h) (BodyLoose.notSynchronized Bd) (by decide) (by decide) (fun fs hr => retOut X0 hx (t := .double) Bd.returns rfl (Or.inr (Or.inr (Or.inl ⟨rfl, rfl, _, rfl⟩))) (hb hby d13_23) hr) ?_
    show Q_rm13_1 Z it (1 : Int32) (1 : Int32) kd w0 w1 w2 w3 h0 n0 _ s₁.heap _
    rw [e0]
    exact ⟨(by rw [show own_e (1 : Int32) (1 : Int32) (1 : Int32) w0 w1 w2 w3 = w1 by simp [own_e, own_pick]]), N0, rfl⟩
  · show Goes p e below s _ _ _ (s₁.setTop (mkF m 0 #[.val (.ref it), .val (.int (1 : Int32)), .val (.int (2 : Int32)), .val (.int (1 : Int32))] []))
    refine Goes.pre (fun t kt => XS.iloadN X0.here hx rfl (hb hby d13_0) rfl kt) ?_
    show Goes p e below s _ _ _ (s₁.setTop (mkF m 1 #[.val (.ref it), .val (.int (1 : Int32)), .val (.int (2 : Int32)), .val (.int (1 : Int32))] [(.int (1 : Int32))]))
    refine Goes.pre (fun t kt => XS.iloadN X0.here hx rfl (hb hby d13_1) rfl kt) ?_
    show Goes p e below s _ _ _ (s₁.setTop (mkF m 2 #[.val (.ref it), .val (.int (1 : Int32)), .val (.int (2 : Int32)), .val (.int (1 : Int32))] [(.int (1 : Int32)), (.int (1 : Int32))]))
    refine Goes.pre (fun t kt => XS.icmpNo X0.here hx rfl (hb hby d13_2) rfl (Jvm.Free.XT.ii_gt_f ((by decide))) kt) ?_
    show Goes p e below s _ _ _ (s₁.setTop (mkF m 5 #[.val (.ref it), .val (.int (1 : Int32)), .val (.int (2 : Int32)), .val (.int (1 : Int32))] []))
    refine Goes.pre (fun t kt => XS.iloadN X0.here hx rfl (hb hby d13_5) rfl kt) ?_
    show Goes p e below s _ _ _ (s₁.setTop (mkF m 6 #[.val (.ref it), .val (.int (1 : Int32)), .val (.int (2 : Int32)), .val (.int (1 : Int32))] [(.int (1 : Int32))]))
    refine Goes.pre (fun t kt => XS.iloadN X0.here hx rfl (hb hby d13_6) rfl kt) ?_
    show Goes p e below s _ _ _ (s₁.setTop (mkF m 7 #[.val (.ref it), .val (.int (1 : Int32)), .val (.int (2 : Int32)), .val (.int (1 : Int32))] [(.int (2 : Int32)), (.int (1 : Int32))]))
    refine Goes.pre (fun t kt => XS.icmpNo X0.here hx rfl (hb hby d13_7) rfl (Jvm.Free.XT.ii_ge_f ((by decide))) kt) ?_
    show Goes p e below s _ _ _ (s₁.setTop (mkF m 10 #[.val (.ref it), .val (.int (1 : Int32)), .val (.int (2 : Int32)), .val (.int (1 : Int32))] []))
    refine Goes.pre (fun t kt => XS.aloadN X0.here hx rfl (hb hby d13_10) rfl rfl kt) ?_
    show Goes p e below s _ _ _ (s₁.setTop (mkF m 11 #[.val (.ref it), .val (.int (1 : Int32)), .val (.int (2 : Int32)), .val (.int (1 : Int32))] [(.ref it)]))
    refine Goes.pre (fun t kt => XS.iloadN X0.here hx rfl (hb hby d13_11) rfl kt) ?_
    show Goes p e below s _ _ _ (s₁.setTop (mkF m 12 #[.val (.ref it), .val (.int (1 : Int32)), .val (.int (2 : Int32)), .val (.int (1 : Int32))] [(.int (1 : Int32)), (.ref it)]))
    refine Goes.pre (fun t kt => XS.iloadN X0.here hx rfl (hb hby d13_12) rfl kt) ?_
    show Goes p e below s _ _ _ (s₁.setTop (mkF m 13 #[.val (.ref it), .val (.int (1 : Int32)), .val (.int (2 : Int32)), .val (.int (1 : Int32))] [(.int (2 : Int32)), (.int (1 : Int32)), (.ref it)]))
    refine Goes.pre (fun t kt => XS.iadd X0.here hx rfl (hb hby d13_13) rfl kt) ?_
    show Goes p e below s _ _ _ (s₁.setTop (mkF m 14 #[.val (.ref it), .val (.int (1 : Int32)), .val (.int (2 : Int32)), .val (.int (1 : Int32))] [(.int (3 : Int32)), (.ref it)]))
    refine Goes.pre (fun t kt => XS.iconst X0.here hx rfl (hb hby d13_14) kt) ?_
    show Goes p e below s _ _ _ (s₁.setTop (mkF m 15 #[.val (.ref it), .val (.int (1 : Int32)), .val (.int (2 : Int32)), .val (.int (1 : Int32))] [(.int (1 : Int32)), (.int (3 : Int32)), (.ref it)]))
    refine Goes.pre (fun t kt => XS.isub X0.here hx rfl (hb hby d13_15) rfl kt) ?_
    show Goes p e below s _ _ _ (s₁.setTop (mkF m 16 #[.val (.ref it), .val (.int (1 : Int32)), .val (.int (2 : Int32)), .val (.int (1 : Int32))] [(.int (2 : Int32)), (.ref it)]))
    refine Goes.pre (fun t kt => XS.iloadN X0.here hx rfl (hb hby d13_16) rfl kt) ?_
    show Goes p e below s _ _ _ (s₁.setTop (mkF m 17 #[.val (.ref it), .val (.int (1 : Int32)), .val (.int (2 : Int32)), .val (.int (1 : Int32))] [(.int (1 : Int32)), (.int (2 : Int32)), (.ref it)]))
    refine Goes.pre (fun t kt => XS.isub X0.here hx rfl (hb hby d13_17) rfl kt) ?_
    show Goes p e below s _ _ _ (s₁.setTop (mkF m 18 #[.val (.ref it), .val (.int (1 : Int32)), .val (.int (2 : Int32)), .val (.int (1 : Int32))] [(.int (1 : Int32)), (.ref it)]))
    obtain ⟨cl7, Ar7, aq7, aS7, aN7, aH7, aG7⟩ := pf_V_it
    have V7 : Arv Z h0 it kd .double (4 : Int32) [(.double w0), (.double w1), (.double w2), (.double w3)] (.double (0 : UInt64)) := ⟨cl7, Ar7, aq7, aS7, aN7, aH7, aG7⟩
    have hin7 : ¬ ((1 : Int32) < 0 ∨ cl7.slots.size ≤ ((1 : Int32)).toNatClampNeg) := inb_of aS7 ⟨by decide, by decide⟩
    have hat7 : cl7.slots[((1 : Int32)).toNatClampNeg]? = some (.double w1) := aH7.at hin7 rfl
    refine Goes.pre (X0.daload hx (j := (1 : Int32)) (v := (.double w1)) (by rw [e0]; exact Ar7.1) (State.isArrayOf_alike hZ.alike Ar7.2.1) Ar7.2.2 hin7 hat7 (g := (mkF m 18 #[.val (.ref it), .val (.int (1 : Int32)), .val (.int (2 : Int32)), .val (.int (1 : Int32))] [(.int (1 : Int32)), (.ref it)])) rfl rfl (hb hby d13_18)) ?_
    show Goes p e below s _ _ _ (s₁.setTop (mkF m 19 #[.val (.ref it), .val (.int (1 : Int32)), .val (.int (2 : Int32)), .val (.int (1 : Int32))] [(.double w1)]))
    refine Goes.ret X0 (some (.double w1)) (fun h => by rw [Bd.returns] at h; cases h) (BodyLoose.notSynchronized Bd) (by decide) (by decide) (fun fs hr => retOut X0 hx (t := .double) Bd.returns rfl (Or.inr (Or.inr (Or.inl ⟨rfl, rfl, _, rfl⟩))) (hb hby d13_19) hr) ?_
    show Q_rm13_1 Z it (1 : Int32) (2 : Int32) kd w0 w1 w2 w3 h0 n0 _ s₁.heap _
    rw [e0]
    exact ⟨(by rw [show own_e (1 : Int32) (2 : Int32) (1 : Int32) w0 w1 w2 w3 = w1 by simp [own_e, own_pick]]), N0, rfl⟩
  · show Goes p e below s _ _ _ (s₁.setTop (mkF m 0 #[.val (.ref it), .val (.int (1 : Int32)), .val (.int (3 : Int32)), .val (.int (1 : Int32))] []))
    refine Goes.pre (fun t kt => XS.iloadN X0.here hx rfl (hb hby d13_0) rfl kt) ?_
    show Goes p e below s _ _ _ (s₁.setTop (mkF m 1 #[.val (.ref it), .val (.int (1 : Int32)), .val (.int (3 : Int32)), .val (.int (1 : Int32))] [(.int (1 : Int32))]))
    refine Goes.pre (fun t kt => XS.iloadN X0.here hx rfl (hb hby d13_1) rfl kt) ?_
    show Goes p e below s _ _ _ (s₁.setTop (mkF m 2 #[.val (.ref it), .val (.int (1 : Int32)), .val (.int (3 : Int32)), .val (.int (1 : Int32))] [(.int (1 : Int32)), (.int (1 : Int32))]))
    refine Goes.pre (fun t kt => XS.icmpNo X0.here hx rfl (hb hby d13_2) rfl (Jvm.Free.XT.ii_gt_f ((by decide))) kt) ?_
    show Goes p e below s _ _ _ (s₁.setTop (mkF m 5 #[.val (.ref it), .val (.int (1 : Int32)), .val (.int (3 : Int32)), .val (.int (1 : Int32))] []))
    refine Goes.pre (fun t kt => XS.iloadN X0.here hx rfl (hb hby d13_5) rfl kt) ?_
    show Goes p e below s _ _ _ (s₁.setTop (mkF m 6 #[.val (.ref it), .val (.int (1 : Int32)), .val (.int (3 : Int32)), .val (.int (1 : Int32))] [(.int (1 : Int32))]))
    refine Goes.pre (fun t kt => XS.iloadN X0.here hx rfl (hb hby d13_6) rfl kt) ?_
    show Goes p e below s _ _ _ (s₁.setTop (mkF m 7 #[.val (.ref it), .val (.int (1 : Int32)), .val (.int (3 : Int32)), .val (.int (1 : Int32))] [(.int (3 : Int32)), (.int (1 : Int32))]))
    refine Goes.pre (fun t kt => XS.icmpNo X0.here hx rfl (hb hby d13_7) rfl (Jvm.Free.XT.ii_ge_f ((by decide))) kt) ?_
    show Goes p e below s _ _ _ (s₁.setTop (mkF m 10 #[.val (.ref it), .val (.int (1 : Int32)), .val (.int (3 : Int32)), .val (.int (1 : Int32))] []))
    refine Goes.pre (fun t kt => XS.aloadN X0.here hx rfl (hb hby d13_10) rfl rfl kt) ?_
    show Goes p e below s _ _ _ (s₁.setTop (mkF m 11 #[.val (.ref it), .val (.int (1 : Int32)), .val (.int (3 : Int32)), .val (.int (1 : Int32))] [(.ref it)]))
    refine Goes.pre (fun t kt => XS.iloadN X0.here hx rfl (hb hby d13_11) rfl kt) ?_
    show Goes p e below s _ _ _ (s₁.setTop (mkF m 12 #[.val (.ref it), .val (.int (1 : Int32)), .val (.int (3 : Int32)), .val (.int (1 : Int32))] [(.int (1 : Int32)), (.ref it)]))
    refine Goes.pre (fun t kt => XS.iloadN X0.here hx rfl (hb hby d13_12) rfl kt) ?_
    show Goes p e below s _ _ _ (s₁.setTop (mkF m 13 #[.val (.ref it), .val (.int (1 : Int32)), .val (.int (3 : Int32)), .val (.int (1 : Int32))] [(.int (3 : Int32)), (.int (1 : Int32)), (.ref it)]))
    refine Goes.pre (fun t kt => XS.iadd X0.here hx rfl (hb hby d13_13) rfl kt) ?_
    show Goes p e below s _ _ _ (s₁.setTop (mkF m 14 #[.val (.ref it), .val (.int (1 : Int32)), .val (.int (3 : Int32)), .val (.int (1 : Int32))] [(.int (4 : Int32)), (.ref it)]))
    refine Goes.pre (fun t kt => XS.iconst X0.here hx rfl (hb hby d13_14) kt) ?_
    show Goes p e below s _ _ _ (s₁.setTop (mkF m 15 #[.val (.ref it), .val (.int (1 : Int32)), .val (.int (3 : Int32)), .val (.int (1 : Int32))] [(.int (1 : Int32)), (.int (4 : Int32)), (.ref it)]))
    refine Goes.pre (fun t kt => XS.isub X0.here hx rfl (hb hby d13_15) rfl kt) ?_
    show Goes p e below s _ _ _ (s₁.setTop (mkF m 16 #[.val (.ref it), .val (.int (1 : Int32)), .val (.int (3 : Int32)), .val (.int (1 : Int32))] [(.int (3 : Int32)), (.ref it)]))
    refine Goes.pre (fun t kt => XS.iloadN X0.here hx rfl (hb hby d13_16) rfl kt) ?_
    show Goes p e below s _ _ _ (s₁.setTop (mkF m 17 #[.val (.ref it), .val (.int (1 : Int32)), .val (.int (3 : Int32)), .val (.int (1 : Int32))] [(.int (1 : Int32)), (.int (3 : Int32)), (.ref it)]))
    refine Goes.pre (fun t kt => XS.isub X0.here hx rfl (hb hby d13_17) rfl kt) ?_
    show Goes p e below s _ _ _ (s₁.setTop (mkF m 18 #[.val (.ref it), .val (.int (1 : Int32)), .val (.int (3 : Int32)), .val (.int (1 : Int32))] [(.int (2 : Int32)), (.ref it)]))
    obtain ⟨cl8, Ar8, aq8, aS8, aN8, aH8, aG8⟩ := pf_V_it
    have V8 : Arv Z h0 it kd .double (4 : Int32) [(.double w0), (.double w1), (.double w2), (.double w3)] (.double (0 : UInt64)) := ⟨cl8, Ar8, aq8, aS8, aN8, aH8, aG8⟩
    have hin8 : ¬ ((2 : Int32) < 0 ∨ cl8.slots.size ≤ ((2 : Int32)).toNatClampNeg) := inb_of aS8 ⟨by decide, by decide⟩
    have hat8 : cl8.slots[((2 : Int32)).toNatClampNeg]? = some (.double w2) := aH8.at hin8 rfl
    refine Goes.pre (X0.daload hx (j := (2 : Int32)) (v := (.double w2)) (by rw [e0]; exact Ar8.1) (State.isArrayOf_alike hZ.alike Ar8.2.1) Ar8.2.2 hin8 hat8 (g := (mkF m 18 #[.val (.ref it), .val (.int (1 : Int32)), .val (.int (3 : Int32)), .val (.int (1 : Int32))] [(.int (2 : Int32)), (.ref it)])) rfl rfl (hb hby d13_18)) ?_
    show Goes p e below s _ _ _ (s₁.setTop (mkF m 19 #[.val (.ref it), .val (.int (1 : Int32)), .val (.int (3 : Int32)), .val (.int (1 : Int32))] [(.double w2)]))
    refine Goes.ret X0 (some (.double w2)) (fun h => by rw [Bd.returns] at h; cases h) (BodyLoose.notSynchronized Bd) (by decide) (by decide) (fun fs hr => retOut X0 hx (t := .double) Bd.returns rfl (Or.inr (Or.inr (Or.inl ⟨rfl, rfl, _, rfl⟩))) (hb hby d13_19) hr) ?_
    show Q_rm13_1 Z it (1 : Int32) (3 : Int32) kd w0 w1 w2 w3 h0 n0 _ s₁.heap _
    rw [e0]
    exact ⟨(by rw [show own_e (1 : Int32) (3 : Int32) (1 : Int32) w0 w1 w2 w3 = w2 by simp [own_e, own_pick]]), N0, rfl⟩
  · show Goes p e below s _ _ _ (s₁.setTop (mkF m 0 #[.val (.ref it), .val (.int (1 : Int32)), .val (.int (4 : Int32)), .val (.int (1 : Int32))] []))
    refine Goes.pre (fun t kt => XS.iloadN X0.here hx rfl (hb hby d13_0) rfl kt) ?_
    show Goes p e below s _ _ _ (s₁.setTop (mkF m 1 #[.val (.ref it), .val (.int (1 : Int32)), .val (.int (4 : Int32)), .val (.int (1 : Int32))] [(.int (1 : Int32))]))
    refine Goes.pre (fun t kt => XS.iloadN X0.here hx rfl (hb hby d13_1) rfl kt) ?_
    show Goes p e below s _ _ _ (s₁.setTop (mkF m 2 #[.val (.ref it), .val (.int (1 : Int32)), .val (.int (4 : Int32)), .val (.int (1 : Int32))] [(.int (1 : Int32)), (.int (1 : Int32))]))
    refine Goes.pre (fun t kt => XS.icmpNo X0.here hx rfl (hb hby d13_2) rfl (Jvm.Free.XT.ii_gt_f ((by decide))) kt) ?_
    show Goes p e below s _ _ _ (s₁.setTop (mkF m 5 #[.val (.ref it), .val (.int (1 : Int32)), .val (.int (4 : Int32)), .val (.int (1 : Int32))] []))
    refine Goes.pre (fun t kt => XS.iloadN X0.here hx rfl (hb hby d13_5) rfl kt) ?_
    show Goes p e below s _ _ _ (s₁.setTop (mkF m 6 #[.val (.ref it), .val (.int (1 : Int32)), .val (.int (4 : Int32)), .val (.int (1 : Int32))] [(.int (1 : Int32))]))
    refine Goes.pre (fun t kt => XS.iloadN X0.here hx rfl (hb hby d13_6) rfl kt) ?_
    show Goes p e below s _ _ _ (s₁.setTop (mkF m 7 #[.val (.ref it), .val (.int (1 : Int32)), .val (.int (4 : Int32)), .val (.int (1 : Int32))] [(.int (4 : Int32)), (.int (1 : Int32))]))
    refine Goes.pre (fun t kt => XS.icmpNo X0.here hx rfl (hb hby d13_7) rfl (Jvm.Free.XT.ii_ge_f ((by decide))) kt) ?_
    show Goes p e below s _ _ _ (s₁.setTop (mkF m 10 #[.val (.ref it), .val (.int (1 : Int32)), .val (.int (4 : Int32)), .val (.int (1 : Int32))] []))
    refine Goes.pre (fun t kt => XS.aloadN X0.here hx rfl (hb hby d13_10) rfl rfl kt) ?_
    show Goes p e below s _ _ _ (s₁.setTop (mkF m 11 #[.val (.ref it), .val (.int (1 : Int32)), .val (.int (4 : Int32)), .val (.int (1 : Int32))] [(.ref it)]))
    refine Goes.pre (fun t kt => XS.iloadN X0.here hx rfl (hb hby d13_11) rfl kt) ?_
    show Goes p e below s _ _ _ (s₁.setTop (mkF m 12 #[.val (.ref it), .val (.int (1 : Int32)), .val (.int (4 : Int32)), .val (.int (1 : Int32))] [(.int (1 : Int32)), (.ref it)]))
    refine Goes.pre (fun t kt => XS.iloadN X0.here hx rfl (hb hby d13_12) rfl kt) ?_
    show Goes p e below s _ _ _ (s₁.setTop (mkF m 13 #[.val (.ref it), .val (.int (1 : Int32)), .val (.int (4 : Int32)), .val (.int (1 : Int32))] [(.int (4 : Int32)), (.int (1 : Int32)), (.ref it)]))
    refine Goes.pre (fun t kt => XS.iadd X0.here hx rfl (hb hby d13_13) rfl kt) ?_
    show Goes p e below s _ _ _ (s₁.setTop (mkF m 14 #[.val (.ref it), .val (.int (1 : Int32)), .val (.int (4 : Int32)), .val (.int (1 : Int32))] [(.int (5 : Int32)), (.ref it)]))
    refine Goes.pre (fun t kt => XS.iconst X0.here hx rfl (hb hby d13_14) kt) ?_
    show Goes p e below s _ _ _ (s₁.setTop (mkF m 15 #[.val (.ref it), .val (.int (1 : Int32)), .val (.int (4 : Int32)), .val (.int (1 : Int32))] [(.int (1 : Int32)), (.int (5 : Int32)), (.ref it)]))
    refine Goes.pre (fun t kt => XS.isub X0.here hx rfl (hb hby d13_15) rfl kt) ?_
    show Goes p e below s _ _ _ (s₁.setTop (mkF m 16 #[.val (.ref it), .val (.int (1 : Int32)), .val (.int (4 : Int32)), .val (.int (1 : Int32))] [(.int (4 : Int32)), (.ref it)]))
    refine Goes.pre (fun t kt => XS.iloadN X0.here hx rfl (hb hby d13_16) rfl kt) ?_
    show Goes p e below s _ _ _ (s₁.setTop (mkF m 17 #[.val (.ref it), .val (.int (1 : Int32)), .val (.int (4 : Int32)), .val (.int (1 : Int32))] [(.int (1 : Int32)), (.int (4 : Int32)), (.ref it)]))
    refine Goes.pre (fun t kt => XS.isub X0.here hx rfl (hb hby d13_17) rfl kt) ?_
    show Goes p e below s _ _ _ (s₁.setTop (mkF m 18 #[.val (.ref it), .val (.int (1 : Int32)), .val (.int (4 : Int32)), .val (.int (1 : Int32))] [(.int (3 : Int32)), (.ref it)]))
    obtain ⟨cl9, Ar9, aq9, aS9, aN9, aH9, aG9⟩ := pf_V_it
    have V9 : Arv Z h0 it kd .double (4 : Int32) [(.double w0), (.double w1), (.double w2), (.double w3)] (.double (0 : UInt64)) := ⟨cl9, Ar9, aq9, aS9, aN9, aH9, aG9⟩
    have hin9 : ¬ ((3 : Int32) < 0 ∨ cl9.slots.size ≤ ((3 : Int32)).toNatClampNeg) := inb_of aS9 ⟨by decide, by decide⟩
    have hat9 : cl9.slots[((3 : Int32)).toNatClampNeg]? = some (.double w3) := aH9.at hin9 rfl
    refine Goes.pre (X0.daload hx (j := (3 : Int32)) (v := (.double w3)) (by rw [e0]; exact Ar9.1) (State.isArrayOf_alike hZ.alike Ar9.2.1) Ar9.2.2 hin9 hat9 (g := (mkF m 18 #[.val (.ref it), .val (.int (1 : Int32)), .val (.int (4 : Int32)), .val (.int (1 : Int32))] [(.int (3 : Int32)), (.ref it)])) rfl rfl (hb hby d13_18)) ?_
    show Goes p e below s _ _ _ (s₁.setTop (mkF m 19 #[.val (.ref it), .val (.int (1 : Int32)), .val (.int (4 : Int32)), .val (.int (1 : Int32))] [(.double w3)]))
    refine Goes.ret X0 (some (.double w3)) (fun h => by rw [Bd.returns] at h; cases h) (BodyLoose.notSynchronized Bd) (by decide) (by decide) (fun fs hr => retOut X0 hx (t := .double) Bd.returns rfl (Or.inr (Or.inr (Or.inl ⟨rfl, rfl, _, rfl⟩))) (hb hby d13_19) hr) ?_
    show Q_rm13_1 Z it (1 : Int32) (4 : Int32) kd w0 w1 w2 w3 h0 n0 _ s₁.heap _
    rw [e0]
    exact ⟨(by rw [show own_e (1 : Int32) (4 : Int32) (1 : Int32) w0 w1 w2 w3 = w3 by simp [own_e, own_pick]]), N0, rfl⟩
  · show Goes p e below s _ _ _ (s₁.setTop (mkF m 0 #[.val (.ref it), .val (.int (2 : Int32)), .val (.int (2 : Int32)), .val (.int (1 : Int32))] []))
    refine Goes.pre (fun t kt => XS.iloadN X0.here hx rfl (hb hby d13_0) rfl kt) ?_
    show Goes p e below s _ _ _ (s₁.setTop (mkF m 1 #[.val (.ref it), .val (.int (2 : Int32)), .val (.int (2 : Int32)), .val (.int (1 : Int32))] [(.int (2 : Int32))]))
    refine Goes.pre (fun t kt => XS.iloadN X0.here hx rfl (hb hby d13_1) rfl kt) ?_
    show Goes p e below s _ _ _ (s₁.setTop (mkF m 2 #[.val (.ref it), .val (.int (2 : Int32)), .val (.int (2 : Int32)), .val (.int (1 : Int32))] [(.int (1 : Int32)), (.int (2 : Int32))]))
    refine Goes.pre (fun t kt => XS.icmpYes X0.here hx rfl (pc0 := 2) (pc' := 20) rfl (hb hby d13_2) rfl (Jvm.Free.XT.ii_gt_t ((by decide))) (by decide) (by decide) kt) ?_
    show Goes p e below s _ _ _ (s₁.setTop (mkF m 20 #[.val (.ref it), .val (.int (2 : Int32)), .val (.int (2 : Int32)), .val (.int (1 : Int32))] []))
    refine Goes.pre (fun t kt => XS.aloadN X0.here hx rfl (hb hby d13_20) rfl rfl kt) ?_
    show Goes p e below s _ _ _ (s₁.setTop (mkF m 21 #[.val (.ref it), .val (.int (2 : Int32)), .val (.int (2 : Int32)), .val (.int (1 : Int32))] [(.ref it)]))
    refine Goes.pre (fun t kt => XS.iloadN X0.here hx rfl (hb hby d13_21) rfl kt) ?_
    show Goes p e below s _ _ _ (s₁.setTop (mkF m 22 #[.val (.ref it), .val (.int (2 : Int32)), .val (.int (2 : Int32)), .val (.int (1 : Int32))] [(.int (1 : Int32)), (.ref it)]))
    obtain ⟨cl10, Ar10, aq10, aS10, aN10, aH10, aG10⟩ := pf_V_it
    have V10 : Arv Z h0 it kd .double (4 : Int32) [(.double w0), (.double w1), (.double w2), (.double w3)] (.double (0 : UInt64)) := ⟨cl10, Ar10, aq10, aS10, aN10, aH10, aG10⟩
    have hin10 : ¬ ((1 : Int32) < 0 ∨ cl10.slots.size ≤ ((1 : Int32)).toNatClampNeg) := inb_of aS10 ⟨by decide, by decide⟩
    have hat10 : cl10.slots[((1 : Int32)).toNatClampNeg]? = some (.double w1) := aH10.at hin10 rfl
    refine Goes.pre (X0.daload hx (j := (1 : Int32)) (v := (.double w1)) (by rw [e0]; exact Ar10.1) (State.isArrayOf_alike hZ.alike Ar10.2.1) Ar10.2.2 hin10 hat10 (g := (mkF m 22 #[.val (.ref it), .val (.int (2 : Int32)), .val (.int (2 : Int32)), .val (.int (1 : Int32))] [(.int (1 : Int32)), (.ref it)])) rfl rfl (hb hby d13_22)) ?_
    show Goes p e below s _ _ _ (s₁.setTop (mkF m 23 #[.val (.ref it), .val (.int (2 : Int32)), .val (.int (2 : Int32)), .val (.int (1 : Int32))] [(.double w1)]))
    refine Goes.ret X0 (some (.double w1)) (fun h => by rw [Bd.returns] at h; cases h) (BodyLoose.notSynchronized Bd) (by decide) (by decide) (fun fs hr => retOut X0 hx (t := .double) Bd.returns rfl (Or.inr (Or.inr (Or.inl ⟨rfl, rfl, _, rfl⟩))) (hb hby d13_23) hr) ?_
    show Q_rm13_1 Z it (2 : Int32) (2 : Int32) kd w0 w1 w2 w3 h0 n0 _ s₁.heap _
    rw [e0]
    exact ⟨(by rw [show own_e (2 : Int32) (2 : Int32) (1 : Int32) w0 w1 w2 w3 = w1 by simp [own_e, own_pick]]), N0, rfl⟩
  · show Goes p e below s _ _ _ (s₁.setTop (mkF m 0 #[.val (.ref it), .val (.int (2 : Int32)), .val (.int (3 : Int32)), .val (.int (1 : Int32))] []))
    refine Goes.pre (fun t kt => XS.iloadN X0.here hx rfl (hb hby d13_0) rfl kt) ?_
    show Goes p e below s _ _ _ (s₁.setTop (mkF m 1 #[.val (.ref it), .val (.int (2 : Int32)), .val (.int (3 : Int32)), .val (.int (1 : Int32))] [(.int (2 : Int32))]))
    refine Goes.pre (fun t kt => XS.iloadN X0.here hx rfl (hb hby d13_1) rfl kt) ?_
    show Goes p e below s _ _ _ (s₁.setTop (mkF m 2 #[.val (.ref it), .val (.int (2 : Int32)), .val (.int (3 : Int32)), .val (.int (1 : Int32))] [(.int (1 : Int32)), (.int (2 : Int32))]))
    refine Goes.pre (fun t kt => XS.icmpYes X0.here hx rfl (pc0 := 2) (pc' := 20) rfl (hb hby d13_2) rfl (Jvm.Free.XT.ii_gt_t ((by decide))) (by decide) (by decide) kt) ?_
    show Goes p e below s _ _ _ (s₁.setTop (mkF m 20 #[.val (.ref it), .val (.int (2 : Int32)), .val (.int (3 : Int32)), .val (.int (1 : Int32))] []))
    refine Goes.pre (fun t kt => XS.aloadN X0.here hx rfl (hb hby d13_20) rfl rfl kt) ?_
    show Goes p e below s _ _ _ (s₁.setTop (mkF m 21 #[.val (.ref it), .val (.int (2 : Int32)), .val (.int (3 : Int32)), .val (.int (1 : Int32))] [(.ref it)]))
    refine Goes.pre (fun t kt => XS.iloadN X0.here hx rfl (hb hby d13_21) rfl kt) ?_
    show Goes p e below s _ _ _ (s₁.setTop (mkF m 22 #[.val (.ref it), .val (.int (2 : Int32)), .val (.int (3 : Int32)), .val (.int (1 : Int32))] [(.int (1 : Int32)), (.ref it)]))
    obtain ⟨cl11, Ar11, aq11, aS11, aN11, aH11, aG11⟩ := pf_V_it
    have V11 : Arv Z h0 it kd .double (4 : Int32) [(.double w0), (.double w1), (.double w2), (.double w3)] (.double (0 : UInt64)) := ⟨cl11, Ar11, aq11, aS11, aN11, aH11, aG11⟩
    have hin11 : ¬ ((1 : Int32) < 0 ∨ cl11.slots.size ≤ ((1 : Int32)).toNatClampNeg) := inb_of aS11 ⟨by decide, by decide⟩
    have hat11 : cl11.slots[((1 : Int32)).toNatClampNeg]? = some (.double w1) := aH11.at hin11 rfl
    refine Goes.pre (X0.daload hx (j := (1 : Int32)) (v := (.double w1)) (by rw [e0]; exact Ar11.1) (State.isArrayOf_alike hZ.alike Ar11.2.1) Ar11.2.2 hin11 hat11 (g := (mkF m 22 #[.val (.ref it), .val (.int (2 : Int32)), .val (.int (3 : Int32)), .val (.int (1 : Int32))] [(.int (1 : Int32)), (.ref it)])) rfl rfl (hb hby d13_22)) ?_
    show Goes p e below s _ _ _ (s₁.setTop (mkF m 23 #[.val (.ref it), .val (.int (2 : Int32)), .val (.int (3 : Int32)), .val (.int (1 : Int32))] [(.double w1)]))
    refine Goes.ret X0 (some (.double w1)) (fun h => by rw [Bd.returns] at h; cases h) (BodyLoose.notSynchronized Bd) (by decide) (by decide) (fun fs hr => retOut X0 hx (t := .double) Bd.returns rfl (Or.inr (Or.inr (Or.inl ⟨rfl, rfl, _, rfl⟩))) (hb hby d13_23) hr) ?_
    show Q_rm13_1 Z it (2 : Int32) (3 : Int32) kd w0 w1 w2 w3 h0 n0 _ s₁.heap _
    rw [e0]
    exact ⟨(by rw [show own_e (2 : Int32) (3 : Int32) (1 : Int32) w0 w1 w2 w3 = w1 by simp [own_e, own_pick]]), N0, rfl⟩
  · show Goes p e below s _ _ _ (s₁.setTop (mkF m 0 #[.val (.ref it), .val (.int (2 : Int32)), .val (.int (4 : Int32)), .val (.int (1 : Int32))] []))
    refine Goes.pre (fun t kt => XS.iloadN X0.here hx rfl (hb hby d13_0) rfl kt) ?_
    show Goes p e below s _ _ _ (s₁.setTop (mkF m 1 #[.val (.ref it), .val (.int (2 : Int32)), .val (.int (4 : Int32)), .val (.int (1 : Int32))] [(.int (2 : Int32))]))
    refine Goes.pre (fun t kt => XS.iloadN X0.here hx rfl (hb hby d13_1) rfl kt) ?_
    show Goes p e below s _ _ _ (s₁.setTop (mkF m 2 #[.val (.ref it), .val (.int (2 : Int32)), .val (.int (4 : Int32)), .val (.int (1 : Int32))] [(.int (1 : Int32)), (.int (2 : Int32))]))
    refine Goes.pre (fun t kt => XS.icmpYes X0.here hx rfl (pc0 := 2) (pc' := 20) rfl (hb hby d13_2) rfl (Jvm.Free.XT.ii_gt_t ((by decide))) (by decide) (by decide) kt) ?_
    show Goes p e below s _ _ _ (s₁.setTop (mkF m 20 #[.val (.ref it), .val (.int (2 : Int32)), .val (.int (4 : Int32)), .val (.int (1 : Int32))] []))
    refine Goes.pre (fun t kt => XS.aloadN X0.here hx rfl (hb hby d13_20) rfl rfl kt) ?_
    show Goes p e below s _ _ _ (s₁.setTop (mkF m 21 #[.val (.ref it), .val (.int (2 : Int32)), .val (.int (4 : Int32)), .val (.int (1 : Int32))] [(.ref it)]))
    refine Goes.pre (fun t kt => XS.iloadN X0.here hx rfl (hb hby d13_21) rfl kt) ?_
    show Goes p e below s _ _ _ (s₁.setTop (mkF m 22 #[.val (.ref it), .val (.int (2 : Int32)), .val (.int (4 : Int32)), .val (.int (1 : Int32))] [(.int (1 : Int32)), (.ref it)]))
    obtain ⟨cl12, Ar12, aq12, aS12, aN12, aH12, aG12⟩ := pf_V_it
    have V12 : Arv Z h0 it kd .double (4 : Int32) [(.double w0), (.double w1), (.double w2), (.double w3)] (.double (0 : UInt64)) := ⟨cl12, Ar12, aq12, aS12, aN12, aH12, aG12⟩
    have hin12 : ¬ ((1 : Int32) < 0 ∨ cl12.slots.size ≤ ((1 : Int32)).toNatClampNeg) := inb_of aS12 ⟨by decide, by decide⟩
    have hat12 : cl12.slots[((1 : Int32)).toNatClampNeg]? = some (.double w1) := aH12.at hin12 rfl
    refine Goes.pre (X0.daload hx (j := (1 : Int32)) (v := (.double w1)) (by rw [e0]; exact Ar12.1) (State.isArrayOf_alike hZ.alike Ar12.2.1) Ar12.2.2 hin12 hat12 (g := (mkF m 22 #[.val (.ref it), .val (.int (2 : Int32)), .val (.int (4 : Int32)), .val (.int (1 : Int32))] [(.int (1 : Int32)), (.ref it)])) rfl rfl (hb hby d13_22)) ?_
    show Goes p e below s _ _ _ (s₁.setTop (mkF m 23 #[.val (.ref it), .val (.int (2 : Int32)), .val (.int (4 : Int32)), .val (.int (1 : Int32))] [(.double w1)]))
    refine Goes.ret X0 (some (.double w1)) (fun h => by rw [Bd.returns] at h; cases h) (BodyLoose.notSynchronized Bd) (by decide) (by decide) (fun fs hr => retOut X0 hx (t := .double) Bd.returns rfl (Or.inr (Or.inr (Or.inl ⟨rfl, rfl, _, rfl⟩))) (hb hby d13_23) hr) ?_
    show Q_rm13_1 Z it (2 : Int32) (4 : Int32) kd w0 w1 w2 w3 h0 n0 _ s₁.heap _
    rw [e0]
    exact ⟨(by rw [show own_e (2 : Int32) (4 : Int32) (1 : Int32) w0 w1 w2 w3 = w1 by simp [own_e, own_pick]]), N0, rfl⟩
  · show Goes p e below s _ _ _ (s₁.setTop (mkF m 0 #[.val (.ref it), .val (.int (3 : Int32)), .val (.int (3 : Int32)), .val (.int (1 : Int32))] []))
    refine Goes.pre (fun t kt => XS.iloadN X0.here hx rfl (hb hby d13_0) rfl kt) ?_
    show Goes p e below s _ _ _ (s₁.setTop (mkF m 1 #[.val (.ref it), .val (.int (3 : Int32)), .val (.int (3 : Int32)), .val (.int (1 : Int32))] [(.int (3 : Int32))]))
    refine Goes.pre (fun t kt => XS.iloadN X0.here hx rfl (hb hby d13_1) rfl kt) ?_
    show Goes p e below s _ _ _ (s₁.setTop (mkF m 2 #[.val (.ref it), .val (.int (3 : Int32)), .val (.int (3 : Int32)), .val (.int (1 : Int32))] [(.int (1 : Int32)), (.int (3 : Int32))]))
    refine Goes.pre (fun t kt => XS.icmpYes X0.here hx rfl (pc0 := 2) (pc' := 20) rfl (hb hby d13_2) rfl (Jvm.Free.XT.ii_gt_t ((by decide))) (by decide) (by decide) kt) ?_
    show Goes p e below s _ _ _ (s₁.setTop (mkF m 20 #[.val (.ref it), .val (.int (3 : Int32)), .val (.int (3 : Int32)), .val (.int (1 : Int32))] []))
    refine Goes.pre (fun t kt => XS.aloadN X0.here hx rfl (hb hby d13_20) rfl rfl kt) ?_
    show Goes p e below s _ _ _ (s₁.setTop (mkF m 21 #[.val (.ref it), .val (.int (3 : Int32)), .val (.int (3 : Int32)), .val (.int (1 : Int32))] [(.ref it)]))
    refine Goes.pre (fun t kt => XS.iloadN X0.here hx rfl (hb hby d13_21) rfl kt) ?_
    show Goes p e below s _ _ _ (s₁.setTop (mkF m 22 #[.val (.ref it), .val (.int (3 : Int32)), .val (.int (3 : Int32)), .val (.int (1 : Int32))] [(.int (1 : Int32)), (.ref it)]))
    obtain ⟨cl13, Ar13, aq13, aS13, aN13, aH13, aG13⟩ := pf_V_it
    have V13 : Arv Z h0 it kd .double (4 : Int32) [(.double w0), (.double w1), (.double w2), (.double w3)] (.double (0 : UInt64)) := ⟨cl13, Ar13, aq13, aS13, aN13, aH13, aG13⟩
    have hin13 : ¬ ((1 : Int32) < 0 ∨ cl13.slots.size ≤ ((1 : Int32)).toNatClampNeg) := inb_of aS13 ⟨by decide, by decide⟩
    have hat13 : cl13.slots[((1 : Int32)).toNatClampNeg]? = some (.double w1) := aH13.at hin13 rfl
    refine Goes.pre (X0.daload hx (j := (1 : Int32)) (v := (.double w1)) (by rw [e0]; exact Ar13.1) (State.isArrayOf_alike hZ.alike Ar13.2.1) Ar13.2.2 hin13 hat13 (g := (mkF m 22 #[.val (.ref it), .val (.int (3 : Int32)), .val (.int (3 : Int32)), .val (.int (1 : Int32))] [(.int (1 : Int32)), (.ref it)])) rfl rfl (hb hby d13_22)) ?_
    show Goes p e below s _ _ _ (s₁.setTop (mkF m 23 #[.val (.ref it), .val (.int (3 : Int32)), .val (.int (3 : Int32)), .val (.int (1 : Int32))] [(.double w1)]))
    refine Goes.ret X0 (some (.double w1)) (fun h => by rw [Bd.returns] at h; cases h) (BodyLoose.notSynchronized Bd) (by decide) (by decide) (fun fs hr => retOut X0 hx (t := .double) Bd.returns rfl (Or.inr (Or.inr (Or.inl ⟨rfl, rfl, _, rfl⟩))) (hb hby d13_23) hr) ?_
    show Q_rm13_1 Z it (3 : Int32) (3 : Int32) kd w0 w1 w2 w3 h0 n0 _ s₁.heap _
    rw [e0]
    exact ⟨(by rw [show own_e (3 : Int32) (3 : Int32) (1 : Int32) w0 w1 w2 w3 = w1 by simp [own_e, own_pick]]), N0, rfl⟩
  · show Goes p e below s _ _ _ (s₁.setTop (mkF m 0 #[.val (.ref it), .val (.int (3 : Int32)), .val (.int (4 : Int32)), .val (.int (1 : Int32))] []))
    refine Goes.pre (fun t kt => XS.iloadN X0.here hx rfl (hb hby d13_0) rfl kt) ?_
    show Goes p e below s _ _ _ (s₁.setTop (mkF m 1 #[.val (.ref it), .val (.int (3 : Int32)), .val (.int (4 : Int32)), .val (.int (1 : Int32))] [(.int (3 : Int32))]))
    refine Goes.pre (fun t kt => XS.iloadN X0.here hx rfl (hb hby d13_1) rfl kt) ?_
    show Goes p e below s _ _ _ (s₁.setTop (mkF m 2 #[.val (.ref it), .val (.int (3 : Int32)), .val (.int (4 : Int32)), .val (.int (1 : Int32))] [(.int (1 : Int32)), (.int (3 : Int32))]))
    refine Goes.pre (fun t kt => XS.icmpYes X0.here hx rfl (pc0 := 2) (pc' := 20) rfl (hb hby d13_2) rfl (Jvm.Free.XT.ii_gt_t ((by decide))) (by decide) (by decide) kt) ?_
    show Goes p e below s _ _ _ (s₁.setTop (mkF m 20 #[.val (.ref it), .val (.int (3 : Int32)), .val (.int (4 : Int32)), .val (.int (1 : Int32))] []))
    refine Goes.pre (fun t kt => XS.aloadN X0.here hx rfl (hb hby d13_20) rfl rfl kt) ?_
    show Goes p e below s _ _ _ (s₁.setTop (mkF m 21 #[.val (.ref it), .val (.int (3 : Int32)), .val (.int (4 : Int32)), .val (.int (1 : Int32))] [(.ref it)]))
    refine Goes.pre (fun t kt => XS.iloadN X0.here hx rfl (hb hby d13_21) rfl kt) ?_
    show Goes p e below s _ _ _ (s₁.setTop (mkF m 22 #[.val (.ref it), .val (.int (3 : Int32)), .val (.int (4 : Int32)), .val (.int (1 : Int32))] [(.int (1 : Int32)), (.ref it)]))
    obtain ⟨cl14, Ar14, aq14, aS14, aN14, aH14, aG14⟩ := pf_V_it
    have V14 : Arv Z h0 it kd .double (4 : Int32) [(.double w0), (.double w1), (.double w2), (.double w3)] (.double (0 : UInt64)) := ⟨cl14, Ar14, aq14, aS14, aN14, aH14, aG14⟩
    have hin14 : ¬ ((1 : Int32) < 0 ∨ cl14.slots.size ≤ ((1 : Int32)).toNatClampNeg) := inb_of aS14 ⟨by decide, by decide⟩
    have hat14 : cl14.slots[((1 : Int32)).toNatClampNeg]? = some (.double w1) := aH14.at hin14 rfl
    refine Goes.pre (X0.daload hx (j := (1 : Int32)) (v := (.double w1)) (by rw [e0]; exact Ar14.1) (State.isArrayOf_alike hZ.alike Ar14.2.1) Ar14.2.2 hin14 hat14 (g := (mkF m 22 #[.val (.ref it), .val (.int (3 : Int32)), .val (.int (4 : Int32)), .val (.int (1 : Int32))] [(.int (1 : Int32)), (.ref it)])) rfl rfl (hb hby d13_22)) ?_
    show Goes p e below s _ _ _ (s₁.setTop (mkF m 23 #[.val (.ref it), .val (.int (3 : Int32)), .val (.int (4 : Int32)), .val (.int (1 : Int32))] [(.double w1)]))
    refine Goes.ret X0 (some (.double w1)) (fun h => by rw [Bd.returns] at h; cases h) (BodyLoose.notSynchronized Bd) (by decide) (by decide) (fun fs hr => retOut X0 hx (t := .double) Bd.returns rfl (Or.inr (Or.inr (Or.inl ⟨rfl, rfl, _, rfl⟩))) (hb hby d13_23) hr) ?_
    show Q_rm13_1 Z it (3 : Int32) (4 : Int32) kd w0 w1 w2 w3 h0 n0 _ s₁.heap _
    rw [e0]
    exact ⟨(by rw [show own_e (3 : Int32) (4 : Int32) (1 : Int32) w0 w1 w2 w3 = w1 by simp [own_e, own_pick]]), N0, rfl⟩
  · show Goes p e below s _ _ _ (s₁.setTop (mkF m 0 #[.val (.ref it), .val (.int (4 : Int32)), .val (.int (4 : Int32)), .val (.int (1 : Int32))] []))
    refine Goes.pre (fun t kt => XS.iloadN X0.here hx rfl (hb hby d13_0) rfl kt) ?_
    show Goes p e below s _ _ _ (s₁.setTop (mkF m 1 #[.val (.ref it), .val (.int (4 : Int32)), .val (.int (4 : Int32)), .val (.int (1 : Int32))] [(.int (4 : Int32))]))
    refine Goes.pre (fun t kt => XS.iloadN X0.here hx rfl (hb hby d13_1) rfl kt) ?_
    show Goes p e below s _ _ _ (s₁.setTop (mkF m 2 #[.val (.ref it), .val (.int (4 : Int32)), .val (.int (4 : Int32)), .val (.int (1 : Int32))] [(.int (1 : Int32)), (.int (4 : Int32))]))
    refine Goes.pre (fun t kt => XS.icmpYes X0.here hx rfl (pc0 := 2) (pc' := 20) rfl (hb hby d13_2) rfl (Jvm.Free.XT.ii_gt_t ((by decide))) (by decide) (by decide) kt) ?_
    show Goes p e below s _ _ _ (s₁.setTop (mkF m 20 #[.val (.ref it), .val (.int (4 : Int32)), .val (.int (4 : Int32)), .val (.int (1 : Int32))] []))
    refine Goes.pre (fun t kt => XS.aloadN X0.here hx rfl (hb hby d13_20) rfl rfl kt) ?_
    show Goes p e below s _ _ _ (s₁.setTop (mkF m 21 #[.val (.ref it), .val (.int (4 : Int32)), .val (.int (4 : Int32)), .val (.int (1 : Int32))] [(.ref it)]))
    refine Goes.pre (fun t kt => XS.iloadN X0.here hx rfl (hb hby d13_21) rfl kt) ?_
    show Goes p e below s _ _ _ (s₁.setTop (mkF m 22 #[.val (.ref it), .val (.int (4 : Int32)), .val (.int (4 : Int32)), .val (.int (1 : Int32))] [(.int (1 : Int32)), (.ref it)]))
    obtain ⟨cl15, Ar15, aq15, aS15, aN15, aH15, aG15⟩ := pf_V_it
    have V15 : Arv Z h0 it kd .double (4 : Int32) [(.double w0), (.double w1), (.double w2), (.double w3)] (.double (0 : UInt64)) := ⟨cl15, Ar15, aq15, aS15, aN15, aH15, aG15⟩
    have hin15 : ¬ ((1 : Int32) < 0 ∨ cl15.slots.size ≤ ((1 : Int32)).toNatClampNeg) := inb_of aS15 ⟨by decide, by decide⟩
    have hat15 : cl15.slots[((1 : Int32)).toNatClampNeg]? = some (.double w1) := aH15.at hin15 rfl
    refine Goes.pre (X0.daload hx (j := (1 : Int32)) (v := (.double w1)) (by rw [e0]; exact Ar15.1) (State.isArrayOf_alike hZ.alike Ar15.2.1) Ar15.2.2 hin15 hat15 (g := (mkF m 22 #[.val (.ref it), .val (.int (4 : Int32)), .val (.int (4 : Int32)), .val (.int (1 : Int32))] [(.int (1 : Int32)), (.ref it)])) rfl rfl (hb hby d13_22)) ?_
    show Goes p e below s _ _ _ (s₁.setTop (mkF m 23 #[.val (.ref it), .val (.int (4 : Int32)), .val (.int (4 : Int32)), .val (.int (1 : Int32))] [(.double w1)]))
    refine Goes.ret X0 (some (.double w1)) (fun h => by rw [Bd.returns] at h; cases h) (BodyLoose.notSynchronized Bd) (by decide) (by decide) (fun fs hr => retOut X0 hx (t := .double) Bd.returns rfl (Or.inr (Or.inr (Or.inl ⟨rfl, rfl, _, rfl⟩))) (hb hby d13_23) hr) ?_
    show Q_rm13_1 Z it (4 : Int32) (4 : Int32) kd w0 w1 w2 w3 h0 n0 _ s₁.heap _
    rw [e0]
    exact ⟨(by rw [show own_e (4 : Int32) (4 : Int32) (1 : Int32) w0 w1 w2 w3 = w1 by simp [own_e, own_pick]]), N0, rfl⟩
def Q_rm13_2 (Z : State) (it : Addr) (lo : Int32) (hi : Int32) (kd : ClassId) (w0 : UInt64) (w1 : UInt64) (w2 : UInt64) (w3 : UInt64) (h0 : Heap) (n0 : Nat) (v : Option Value) (h : Heap) (L : List Loc) : Prop := v = some (.double (own_e lo hi (2 : Int32) w0 w1 w2 w3)) ∧ Fr n0 L ∧ h = h0
theorem ef_rm13_2 (m : MethodId) (it : Addr) (lo : Int32) (hi : Int32) : entryFrame m #[(.ref it), (.int lo), (.int hi), (.int (2 : Int32))] 4 = mkF m 0 #[.val (.ref it), .val (.int lo), .val (.int hi), .val (.int (2 : Int32))] [] := by first | (simp [entryFrame, mkF, argsToLocals, Value.category]; done) | rfl
set_option maxRecDepth 65536 in
set_option maxHeartbeats 40000000 in
theorem rm13_2 (l : Launch) (Z : State) (a0 : Array Value) (hw : ∀ d ∈ tables_1, d.before a0 Z = true) (ws : List Jvm.Cond) (it : Addr) (lo : Int32) (hi : Int32) (kd : ClassId) (w0 : UInt64) (w1 : UInt64) (w2 : UInt64) (w3 : UInt64) (h0 : Heap) (n0 : Nat) (Z0 : n0 ≤ h0.size) (pf_V_it : Arv Z h0 it kd .double (4 : Int32) [(.double w0), (.double w1), (.double w2), (.double w3)] (.double (0 : UInt64))) (hok : own_ok lo hi) :
    MetFree l (⟨"com/example/quantail/quantail/NumberArrayReversePinLaw", "expected", "([DIII)D"⟩ : MethodName) (head1 (Jvm.Cond.code (⟨"com/example/quantail/quantail/NumberArrayReversePinLaw", "expected", "([DIII)D"⟩ : MethodName) method_3_code 4 (some .double) :: ws) ({ frames := 0, cells := 0, slots := 0, locals := 0 } : Room)) (fun a U => a = #[(.ref it), (.int lo), (.int hi), (.int (2 : Int32))] ∧ Z.Warmed39 U.vm ∧ U.heap = h0) (fun _ _ _ _ _ => True) (fun _ U o U' => ∃ v L, o = .returned v ∧ Q_rm13_2 Z it lo hi kd w0 w1 w2 w3 h0 n0 v U'.heap L ∧ FrameEnd U o U' L ({ frames := 0, cells := 0, slots := 0, locals := 0 } : Room).cells ({ frames := 0, cells := 0, slots := 0, locals := 0 } : Room).slots) := by
  refine MetFree.of_bodySF (plainFor_of_name pn_7) hisR ?_
  intro p e s m args below meth c s₁ Bd hml0 hP hK
  obtain ⟨rfl, hZ, hh⟩ := hP
  have hx := Bd.exec
  have hby := Bd.bytes
  have hml : c.maxLocals = 4 := hml0
  have hown : s.vm.findClass "com/example/quantail/quantail/NumberArrayReversePinLaw" = some m.cls := findClass_of_methodNamed Bd.named
  have hnm := (name_of_methodNamed Bd.named Bd.method).1
  have X0 : Stand p l e ({ frames := 0, cells := 0, slots := 0, locals := 0 } : Room) s m #[(.ref it), (.int lo), (.int hi), (.int (2 : Int32))] below meth c s₁ [] 0 0 := Stand.of_body Bd
  have e0 : s₁.heap = h0 := by rw [← hh, Bd.state]; rfl
  have N0 := Fr.nil n0
  show Goes p e below s (Q_rm13_2 Z it lo hi kd w0 w1 w2 w3 h0 n0) ({ frames := 0, cells := 0, slots := 0, locals := 0 } : Room).cells ({ frames := 0, cells := 0, slots := 0, locals := 0 } : Room).slots (s₁.setTop (entryFrame m #[(.ref it), (.int lo), (.int hi), (.int (2 : Int32))] 4))
  refine Goes.pre (fun t kt => castTop (ef_rm13_2 m it lo hi) kt) ?_
  show Goes p e below s _ _ _ (s₁.setTop (mkF m 0 #[.val (.ref it), .val (.int lo), .val (.int hi), .val (.int (2 : Int32))] []))
  rcases hok with ⟨rfl, rfl⟩ | ⟨rfl, rfl⟩ | ⟨rfl, rfl⟩ | ⟨rfl, rfl⟩ | ⟨rfl, rfl⟩ | ⟨rfl, rfl⟩ | ⟨rfl, rfl⟩ | ⟨rfl, rfl⟩ | ⟨rfl, rfl⟩ | ⟨rfl, rfl⟩ | ⟨rfl, rfl⟩ | ⟨rfl, rfl⟩ | ⟨rfl, rfl⟩ | ⟨rfl, rfl⟩ | ⟨rfl, rfl⟩
  · show Goes p e below s _ _ _ (s₁.setTop (mkF m 0 #[.val (.ref it), .val (.int (0 : Int32)), .val (.int (0 : Int32)), .val (.int (2 : Int32))] []))
    refine Goes.pre (fun t kt => XS.iloadN X0.here hx rfl (hb hby d13_0) rfl kt) ?_
    show Goes p e below s _ _ _ (s₁.setTop (mkF m 1 #[.val (.ref it), .val (.int (0 : Int32)), .val (.int (0 : Int32)), .val (.int (2 : Int32))] [(.int (0 : Int32))]))
    refine Goes.pre (fun t kt => XS.iloadN X0.here hx rfl (hb hby d13_1) rfl kt) ?_
    show Goes p e below s _ _ _ (s₁.setTop (mkF m 2 #[.val (.ref it), .val (.int (0 : Int32)), .val (.int (0 : Int32)), .val (.int (2 : Int32))] [(.int (2 : Int32)), (.int (0 : Int32))]))
    refine Goes.pre (fun t kt => XS.icmpNo X0.here hx rfl (hb hby d13_2) rfl (Jvm.Free.XT.ii_gt_f ((by decide))) kt) ?_
    show Goes p e below s _ _ _ (s₁.setTop (mkF m 5 #[.val (.ref it), .val (.int (0 : Int32)), .val (.int (0 : Int32)), .val (.int (2 : Int32))] []))
    refine Goes.pre (fun t kt => XS.iloadN X0.here hx rfl (hb hby d13_5) rfl kt) ?_
    show Goes p e below s _ _ _ (s₁.setTop (mkF m 6 #[.val (.ref it), .val (.int (0 : Int32)), .val (.int (0 : Int32)), .val (.int (2 : Int32))] [(.int (2 : Int32))]))
    refine Goes.pre (fun t kt => XS.iloadN X0.here hx rfl (hb hby d13_6) rfl kt) ?_
    show Goes p e below s _ _ _ (s₁.setTop (mkF m 7 #[.val (.ref it), .val (.int (0 : Int32)), .val (.int (0 : Int32)), .val (.int (2 : Int32))] [(.int (0 : Int32)), (.int (2 : Int32))]))
    refine Goes.pre (fun t kt => XS.icmpYes X0.here hx rfl (pc0 := 7) (pc' := 20) rfl (hb hby d13_7) rfl (Jvm.Free.XT.ii_ge_t ((by decide))) (by decide) (by decide) kt) ?_
    show Goes p e below s _ _ _ (s₁.setTop (mkF m 20 #[.val (.ref it), .val (.int (0 : Int32)), .val (.int (0 : Int32)), .val (.int (2 : Int32))] []))
    refine Goes.pre (fun t kt => XS.aloadN X0.here hx rfl (hb hby d13_20) rfl rfl kt) ?_
    show Goes p e below s _ _ _ (s₁.setTop (mkF m 21 #[.val (.ref it), .val (.int (0 : Int32)), .val (.int (0 : Int32)), .val (.int (2 : Int32))] [(.ref it)]))
    refine Goes.pre (fun t kt => XS.iloadN X0.here hx rfl (hb hby d13_21) rfl kt) ?_
    show Goes p e below s _ _ _ (s₁.setTop (mkF m 22 #[.val (.ref it), .val (.int (0 : Int32)), .val (.int (0 : Int32)), .val (.int (2 : Int32))] [(.int (2 : Int32)), (.ref it)]))
    obtain ⟨cl1, Ar1, aq1, aS1, aN1, aH1, aG1⟩ := pf_V_it
    have V1 : Arv Z h0 it kd .double (4 : Int32) [(.double w0), (.double w1), (.double w2), (.double w3)] (.double (0 : UInt64)) := ⟨cl1, Ar1, aq1, aS1, aN1, aH1, aG1⟩
    have hin1 : ¬ ((2 : Int32) < 0 ∨ cl1.slots.size ≤ ((2 : Int32)).toNatClampNeg) := inb_of aS1 ⟨by decide, by decide⟩
    have hat1 : cl1.slots[((2 : Int32)).toNatClampNeg]? = some (.double w2) := aH1.at hin1 rfl
    refine Goes.pre (X0.daload hx (j := (2 : Int32)) (v := (.double w2)) (by rw [e0]; exact Ar1.1) (State.isArrayOf_alike hZ.alike Ar1.2.1) Ar1.2.2 hin1 hat1 (g := (mkF m 22 #[.val (.ref it), .val (.int (0 : Int32)), .val (.int (0 : Int32)), .val (.int (2 : Int32))] [(.int (2 : Int32)), (.ref it)])) rfl rfl (hb hby d13_22)) ?_
    show Goes p e below s _ _ _ (s₁.setTop (mkF m 23 #[.val (.ref it), .val (.int (0 : Int32)), .val (.int (0 : Int32)), .val (.int (2 : Int32))] [(.double w2)]))
    refine Goes.ret X0 (some (.double w2)) (fun h => by rw [Bd.returns] at h; cases h) (BodyLoose.notSynchronized Bd) (by decide) (by decide) (fun fs hr => retOut X0 hx (t := .double) Bd.returns rfl (Or.inr (Or.inr (Or.inl ⟨rfl, rfl, _, rfl⟩))) (hb hby d13_23) hr) ?_
    show Q_rm13_2 Z it (0 : Int32) (0 : Int32) kd w0 w1 w2 w3 h0 n0 _ s₁.heap _
    rw [e0]
    exact ⟨(by rw [show own_e (0 : Int32) (0 : Int32) (2 : Int32) w0 w1 w2 w3 = w2 by simp [own_e, own_pick]]), N0, rfl⟩
  · show Goes p e below s _ _ _ (s₁.setTop (mkF m 0 #[.val (.ref it), .val (.int (0 : Int32)), .val (.int (1 : Int32)), .val (.int (2 : Int32))] []))
    refine Goes.pre (fun t kt => XS.iloadN X0.here hx rfl (hb hby d13_0) rfl kt) ?_
    show Goes p e below s _ _ _ (s₁.setTop (mkF m 1 #[.val (.ref it), .val (.int (0 : Int32)), .val (.int (1 : Int32)), .val (.int (2 : Int32))] [(.int (0 : Int32))]))
    refine Goes.pre (fun t kt => XS.iloadN X0.here hx rfl (hb hby d13_1) rfl kt) ?_
    show Goes p e below s _ _ _ (s₁.setTop (mkF m 2 #[.val (.ref it), .val (.int (0 : Int32)), .val (.int (1 : Int32)), .val (.int (2 : Int32))] [(.int (2 : Int32)), (.int (0 : Int32))]))
    refine Goes.pre (fun t kt => XS.icmpNo X0.here hx rfl (hb hby d13_2) rfl (Jvm.Free.XT.ii_gt_f ((by decide))) kt) ?_
    show Goes p e below s _ _ _ (s₁.setTop (mkF m 5 #[.val (.ref it), .val (.int (0 : Int32)), .val (.int (1 : Int32)), .val (.int (2 : Int32))] []))
    refine Goes.pre (fun t kt => XS.iloadN X0.here hx rfl (hb hby d13_5) rfl kt) ?_
    show Goes p e below s _ _ _ (s₁.setTop (mkF m 6 #[.val (.ref it), .val (.int (0 : Int32)), .val (.int (1 : Int32)), .val (.int (2 : Int32))] [(.int (2 : Int32))]))
    refine Goes.pre (fun t kt => XS.iloadN X0.here hx rfl (hb hby d13_6) rfl kt) ?_
    show Goes p e below s _ _ _ (s₁.setTop (mkF m 7 #[.val (.ref it), .val (.int (0 : Int32)), .val (.int (1 : Int32)), .val (.int (2 : Int32))] [(.int (1 : Int32)), (.int (2 : Int32))]))
    refine Goes.pre (fun t kt => XS.icmpYes X0.here hx rfl (pc0 := 7) (pc' := 20) rfl (hb hby d13_7) rfl (Jvm.Free.XT.ii_ge_t ((by decide))) (by decide) (by decide) kt) ?_
    show Goes p e below s _ _ _ (s₁.setTop (mkF m 20 #[.val (.ref it), .val (.int (0 : Int32)), .val (.int (1 : Int32)), .val (.int (2 : Int32))] []))
    refine Goes.pre (fun t kt => XS.aloadN X0.here hx rfl (hb hby d13_20) rfl rfl kt) ?_
    show Goes p e below s _ _ _ (s₁.setTop (mkF m 21 #[.val (.ref it), .val (.int (0 : Int32)), .val (.int (1 : Int32)), .val (.int (2 : Int32))] [(.ref it)]))
    refine Goes.pre (fun t kt => XS.iloadN X0.here hx rfl (hb hby d13_21) rfl kt) ?_
    show Goes p e below s _ _ _ (s₁.setTop (mkF m 22 #[.val (.ref it), .val (.int (0 : Int32)), .val (.int (1 : Int32)), .val (.int (2 : Int32))] [(.int (2 : Int32)), (.ref it)]))
    obtain ⟨cl2, Ar2, aq2, aS2, aN2, aH2, aG2⟩ := pf_V_it
    have V2 : Arv Z h0 it kd .double (4 : Int32) [(.double w0), (.double w1), (.double w2), (.double w3)] (.double (0 : UInt64)) := ⟨cl2, Ar2, aq2, aS2, aN2, aH2, aG2⟩
    have hin2 : ¬ ((2 : Int32) < 0 ∨ cl2.slots.size ≤ ((2 : Int32)).toNatClampNeg) := inb_of aS2 ⟨by decide, by decide⟩
    have hat2 : cl2.slots[((2 : Int32)).toNatClampNeg]? = some (.double w2) := aH2.at hin2 rfl
    refine Goes.pre (X0.daload hx (j := (2 : Int32)) (v := (.double w2)) (by rw [e0]; exact Ar2.1) (State.isArrayOf_alike hZ.alike Ar2.2.1) Ar2.2.2 hin2 hat2 (g := (mkF m 22 #[.val (.ref it), .val (.int (0 : Int32)), .val (.int (1 : Int32)), .val (.int (2 : Int32))] [(.int (2 : Int32)), (.ref it)])) rfl rfl (hb hby d13_22)) ?_
    show Goes p e below s _ _ _ (s₁.setTop (mkF m 23 #[.val (.ref it), .val (.int (0 : Int32)), .val (.int (1 : Int32)), .val (.int (2 : Int32))] [(.double w2)]))
    refine Goes.ret X0 (some (.double w2)) (fun h => by rw [Bd.returns] at h; cases h) (BodyLoose.notSynchronized Bd) (by decide) (by decide) (fun fs hr => retOut X0 hx (t := .double) Bd.returns rfl (Or.inr (Or.inr (Or.inl ⟨rfl, rfl, _, rfl⟩))) (hb hby d13_23) hr) ?_
    show Q_rm13_2 Z it (0 : Int32) (1 : Int32) kd w0 w1 w2 w3 h0 n0 _ s₁.heap _
    rw [e0]
    exact ⟨(by rw [show own_e (0 : Int32) (1 : Int32) (2 : Int32) w0 w1 w2 w3 = w2 by simp [own_e, own_pick]]), N0, rfl⟩
  · show Goes p e below s _ _ _ (s₁.setTop (mkF m 0 #[.val (.ref it), .val (.int (0 : Int32)), .val (.int (2 : Int32)), .val (.int (2 : Int32))] []))
    refine Goes.pre (fun t kt => XS.iloadN X0.here hx rfl (hb hby d13_0) rfl kt) ?_
    show Goes p e below s _ _ _ (s₁.setTop (mkF m 1 #[.val (.ref it), .val (.int (0 : Int32)), .val (.int (2 : Int32)), .val (.int (2 : Int32))] [(.int (0 : Int32))]))
    refine Goes.pre (fun t kt => XS.iloadN X0.here hx rfl (hb hby d13_1) rfl kt) ?_
    show Goes p e below s _ _ _ (s₁.setTop (mkF m 2 #[.val (.ref it), .val (.int (0 : Int32)), .val (.int (2 : Int32)), .val (.int (2 : Int32))] [(.int (2 : Int32)), (.int (0 : Int32))]))
    refine Goes.pre (fun t kt => XS.icmpNo X0.here hx rfl (hb hby d13_2) rfl (Jvm.Free.XT.ii_gt_f ((by decide))) kt) ?_
    show Goes p e below s _ _ _ (s₁.setTop (mkF m 5 #[.val (.ref it), .val (.int (0 : Int32)), .val (.int (2 : Int32)), .val (.int (2 : Int32))] []))
    refine Goes.pre (fun t kt => XS.iloadN X0.here hx rfl (hb hby d13_5) rfl kt) ?_
    show Goes p e below s _ _ _ (s₁.setTop (mkF m 6 #[.val (.ref it), .val (.int (0 : Int32)), .val (.int (2 : Int32)), .val (.int (2 : Int32))] [(.int (2 : Int32))]))
    refine Goes.pre (fun t kt => XS.iloadN X0.here hx rfl (hb hby d13_6) rfl kt) ?_
    show Goes p e below s _ _ _ (s₁.setTop (mkF m 7 #[.val (.ref it), .val (.int (0 : Int32)), .val (.int (2 : Int32)), .val (.int (2 : Int32))] [(.int (2 : Int32)), (.int (2 : Int32))]))
    refine Goes.pre (fun t kt => XS.icmpYes X0.here hx rfl (pc0 := 7) (pc' := 20) rfl (hb hby d13_7) rfl (Jvm.Free.XT.ii_ge_t ((by decide))) (by decide) (by decide) kt) ?_
    show Goes p e below s _ _ _ (s₁.setTop (mkF m 20 #[.val (.ref it), .val (.int (0 : Int32)), .val (.int (2 : Int32)), .val (.int (2 : Int32))] []))
    refine Goes.pre (fun t kt => XS.aloadN X0.here hx rfl (hb hby d13_20) rfl rfl kt) ?_
    show Goes p e below s _ _ _ (s₁.setTop (mkF m 21 #[.val (.ref it), .val (.int (0 : Int32)), .val (.int (2 : Int32)), .val (.int (2 : Int32))] [(.ref it)]))
    refine Goes.pre (fun t kt => XS.iloadN X0.here hx rfl (hb hby d13_21) rfl kt) ?_
    show Goes p e below s _ _ _ (s₁.setTop (mkF m 22 #[.val (.ref it), .val (.int (0 : Int32)), .val (.int (2 : Int32)), .val (.int (2 : Int32))] [(.int (2 : Int32)), (.ref it)]))
    obtain ⟨cl3, Ar3, aq3, aS3, aN3, aH3, aG3⟩ := pf_V_it
    have V3 : Arv Z h0 it kd .double (4 : Int32) [(.double w0), (.double w1), (.double w2), (.double w3)] (.double (0 : UInt64)) := ⟨cl3, Ar3, aq3, aS3, aN3, aH3, aG3⟩
    have hin3 : ¬ ((2 : Int32) < 0 ∨ cl3.slots.size ≤ ((2 : Int32)).toNatClampNeg) := inb_of aS3 ⟨by decide, by decide⟩
    have hat3 : cl3.slots[((2 : Int32)).toNatClampNeg]? = some (.double w2) := aH3.at hin3 rfl
    refine Goes.pre (X0.daload hx (j := (2 : Int32)) (v := (.double w2)) (by rw [e0]; exact Ar3.1) (State.isArrayOf_alike hZ.alike Ar3.2.1) Ar3.2.2 hin3 hat3 (g := (mkF m 22 #[.val (.ref it), .val (.int (0 : Int32)), .val (.int (2 : Int32)), .val (.int (2 : Int32))] [(.int (2 : Int32)), (.ref it)])) rfl rfl (hb hby d13_22)) ?_
    show Goes p e below s _ _ _ (s₁.setTop (mkF m 23 #[.val (.ref it), .val (.int (0 : Int32)), .val (.int (2 : Int32)), .val (.int (2 : Int32))] [(.double w2)]))
    refine Goes.ret X0 (some (.double w2)) (fun h => by rw [Bd.returns] at h; cases h) (BodyLoose.notSynchronized Bd) (by decide) (by decide) (fun fs hr => retOut X0 hx (t := .double) Bd.returns rfl (Or.inr (Or.inr (Or.inl ⟨rfl, rfl, _, rfl⟩))) (hb hby d13_23) hr) ?_
    show Q_rm13_2 Z it (0 : Int32) (2 : Int32) kd w0 w1 w2 w3 h0 n0 _ s₁.heap _
    rw [e0]
    exact ⟨(by rw [show own_e (0 : Int32) (2 : Int32) (2 : Int32) w0 w1 w2 w3 = w2 by simp [own_e, own_pick]]), N0, rfl⟩
  · show Goes p e below s _ _ _ (s₁.setTop (mkF m 0 #[.val (.ref it), .val (.int (0 : Int32)), .val (.int (3 : Int32)), .val (.int (2 : Int32))] []))
    refine Goes.pre (fun t kt => XS.iloadN X0.here hx rfl (hb hby d13_0) rfl kt) ?_
    show Goes p e below s _ _ _ (s₁.setTop (mkF m 1 #[.val (.ref it), .val (.int (0 : Int32)), .val (.int (3 : Int32)), .val (.int (2 : Int32))] [(.int (0 : Int32))]))
    refine Goes.pre (fun t kt => XS.iloadN X0.here hx rfl (hb hby d13_1) rfl kt) ?_
    show Goes p e below s _ _ _ (s₁.setTop (mkF m 2 #[.val (.ref it), .val (.int (0 : Int32)), .val (.int (3 : Int32)), .val (.int (2 : Int32))] [(.int (2 : Int32)), (.int (0 : Int32))]))
    refine Goes.pre (fun t kt => XS.icmpNo X0.here hx rfl (hb hby d13_2) rfl (Jvm.Free.XT.ii_gt_f ((by decide))) kt) ?_
    show Goes p e below s _ _ _ (s₁.setTop (mkF m 5 #[.val (.ref it), .val (.int (0 : Int32)), .val (.int (3 : Int32)), .val (.int (2 : Int32))] []))
    refine Goes.pre (fun t kt => XS.iloadN X0.here hx rfl (hb hby d13_5) rfl kt) ?_
    show Goes p e below s _ _ _ (s₁.setTop (mkF m 6 #[.val (.ref it), .val (.int (0 : Int32)), .val (.int (3 : Int32)), .val (.int (2 : Int32))] [(.int (2 : Int32))]))
    refine Goes.pre (fun t kt => XS.iloadN X0.here hx rfl (hb hby d13_6) rfl kt) ?_
    show Goes p e below s _ _ _ (s₁.setTop (mkF m 7 #[.val (.ref it), .val (.int (0 : Int32)), .val (.int (3 : Int32)), .val (.int (2 : Int32))] [(.int (3 : Int32)), (.int (2 : Int32))]))
    refine Goes.pre (fun t kt => XS.icmpNo X0.here hx rfl (hb hby d13_7) rfl (Jvm.Free.XT.ii_ge_f ((by decide))) kt) ?_
    show Goes p e below s _ _ _ (s₁.setTop (mkF m 10 #[.val (.ref it), .val (.int (0 : Int32)), .val (.int (3 : Int32)), .val (.int (2 : Int32))] []))
    refine Goes.pre (fun t kt => XS.aloadN X0.here hx rfl (hb hby d13_10) rfl rfl kt) ?_
    show Goes p e below s _ _ _ (s₁.setTop (mkF m 11 #[.val (.ref it), .val (.int (0 : Int32)), .val (.int (3 : Int32)), .val (.int (2 : Int32))] [(.ref it)]))
    refine Goes.pre (fun t kt => XS.iloadN X0.here hx rfl (hb hby d13_11) rfl kt) ?_
    show Goes p e below s _ _ _ (s₁.setTop (mkF m 12 #[.val (.ref it), .val (.int (0 : Int32)), .val (.int (3 : Int32)), .val (.int (2 : Int32))] [(.int (0 : Int32)), (.ref it)]))
    refine Goes.pre (fun t kt => XS.iloadN X0.here hx rfl (hb hby d13_12) rfl kt) ?_
    show Goes p e below s _ _ _ (s₁.setTop (mkF m 13 #[.val (.ref it), .val (.int (0 : Int32)), .val (.int (3 : Int32)), .val (.int (2 : Int32))] [(.int (3 : Int32)), (.int (0 : Int32)), (.ref it)]))
    refine Goes.pre (fun t kt => XS.iadd X0.here hx rfl (hb hby d13_13) rfl kt) ?_
    show Goes p e below s _ _ _ (s₁.setTop (mkF m 14 #[.val (.ref it), .val (.int (0 : Int32)), .val (.int (3 : Int32)), .val (.int (2 : Int32))] [(.int (3 : Int32)), (.ref it)]))
    refine Goes.pre (fun t kt => XS.iconst X0.here hx rfl (hb hby d13_14) kt) ?_
    show Goes p e below s _ _ _ (s₁.setTop (mkF m 15 #[.val (.ref it), .val (.int (0 : Int32)), .val (.int (3 : Int32)), .val (.int (2 : Int32))] [(.int (1 : Int32)), (.int (3 : Int32)), (.ref it)]))
    refine Goes.pre (fun t kt => XS.isub X0.here hx rfl (hb hby d13_15) rfl kt) ?_
    show Goes p e below s _ _ _ (s₁.setTop (mkF m 16 #[.val (.ref it), .val (.int (0 : Int32)), .val (.int (3 : Int32)), .val (.int (2 : Int32))] [(.int (2 : Int32)), (.ref it)]))
    refine Goes.pre (fun t kt => XS.iloadN X0.here hx rfl (hb hby d13_16) rfl kt) ?_
    show Goes p e below s _ _ _ (s₁.setTop (mkF m 17 #[.val (.ref it), .val (.int (0 : Int32)), .val (.int (3 : Int32)), .val (.int (2 : Int32))] [(.int (2 : Int32)), (.int (2 : Int32)), (.ref it)]))
    refine Goes.pre (fun t kt => XS.isub X0.here hx rfl (hb hby d13_17) rfl kt) ?_
    show Goes p e below s _ _ _ (s₁.setTop (mkF m 18 #[.val (.ref it), .val (.int (0 : Int32)), .val (.int (3 : Int32)), .val (.int (2 : Int32))] [(.int (0 : Int32)), (.ref it)]))
    obtain ⟨cl4, Ar4, aq4, aS4, aN4, aH4, aG4⟩ := pf_V_it
    have V4 : Arv Z h0 it kd .double (4 : Int32) [(.double w0), (.double w1), (.double w2), (.double w3)] (.double (0 : UInt64)) := ⟨cl4, Ar4, aq4, aS4, aN4, aH4, aG4⟩
    have hin4 : ¬ ((0 : Int32) < 0 ∨ cl4.slots.size ≤ ((0 : Int32)).toNatClampNeg) := inb_of aS4 ⟨by decide, by decide⟩
    have hat4 : cl4.slots[((0 : Int32)).toNatClampNeg]? = some (.double w0) := aH4.at hin4 rfl
    refine Goes.pre (X0.daload hx (j := (0 : Int32)) (v := (.double w0)) (by rw [e0]; exact Ar4.1) (State.isArrayOf_alike hZ.alike Ar4.2.1) Ar4.2.2 hin4 hat4 (g := (mkF m 18 #[.val (.ref it), .val (.int (0 : Int32)), .val (.int (3 : Int32)), .val (.int (2 : Int32))] [(.int (0 : Int32)), (.ref it)])) rfl rfl (hb hby d13_18)) ?_
    show Goes p e below s _ _ _ (s₁.setTop (mkF m 19 #[.val (.ref it), .val (.int (0 : Int32)), .val (.int (3 : Int32)), .val (.int (2 : Int32))] [(.double w0)]))
    refine Goes.ret X0 (some (.double w0)) (fun h => by rw [Bd.returns] at h; cases h) (BodyLoose.notSynchronized Bd) (by decide) (by decide) (fun fs hr => retOut X0 hx (t := .double) Bd.returns rfl (Or.inr (Or.inr (Or.inl ⟨rfl, rfl, _, rfl⟩))) (hb hby d13_19) hr) ?_
    show Q_rm13_2 Z it (0 : Int32) (3 : Int32) kd w0 w1 w2 w3 h0 n0 _ s₁.heap _
    rw [e0]
    exact ⟨(by rw [show own_e (0 : Int32) (3 : Int32) (2 : Int32) w0 w1 w2 w3 = w0 by simp [own_e, own_pick]]), N0, rfl⟩
  · show Goes p e below s _ _ _ (s₁.setTop (mkF m 0 #[.val (.ref it), .val (.int (0 : Int32)), .val (.int (4 : Int32)), .val (.int (2 : Int32))] []))
    refine Goes.pre (fun t kt => XS.iloadN X0.here hx rfl (hb hby d13_0) rfl kt) ?_
    show Goes p e below s _ _ _ (s₁.setTop (mkF m 1 #[.val (.ref it), .val (.int (0 : Int32)), .val (.int (4 : Int32)), .val (.int (2 : Int32))] [(.int (0 : Int32))]))
    refine Goes.pre (fun t kt => XS.iloadN X0.here hx rfl (hb hby d13_1) rfl kt) ?_
    show Goes p e below s _ _ _ (s₁.setTop (mkF m 2 #[.val (.ref it), .val (.int (0 : Int32)), .val (.int (4 : Int32)), .val (.int (2 : Int32))] [(.int (2 : Int32)), (.int (0 : Int32))]))
    refine Goes.pre (fun t kt => XS.icmpNo X0.here hx rfl (hb hby d13_2) rfl (Jvm.Free.XT.ii_gt_f ((by decide))) kt) ?_
    show Goes p e below s _ _ _ (s₁.setTop (mkF m 5 #[.val (.ref it), .val (.int (0 : Int32)), .val (.int (4 : Int32)), .val (.int (2 : Int32))] []))
    refine Goes.pre (fun t kt => XS.iloadN X0.here hx rfl (hb hby d13_5) rfl kt) ?_
    show Goes p e below s _ _ _ (s₁.setTop (mkF m 6 #[.val (.ref it), .val (.int (0 : Int32)), .val (.int (4 : Int32)), .val (.int (2 : Int32))] [(.int (2 : Int32))]))
    refine Goes.pre (fun t kt => XS.iloadN X0.here hx rfl (hb hby d13_6) rfl kt) ?_
    show Goes p e below s _ _ _ (s₁.setTop (mkF m 7 #[.val (.ref it), .val (.int (0 : Int32)), .val (.int (4 : Int32)), .val (.int (2 : Int32))] [(.int (4 : Int32)), (.int (2 : Int32))]))
    refine Goes.pre (fun t kt => XS.icmpNo X0.here hx rfl (hb hby d13_7) rfl (Jvm.Free.XT.ii_ge_f ((by decide))) kt) ?_
    show Goes p e below s _ _ _ (s₁.setTop (mkF m 10 #[.val (.ref it), .val (.int (0 : Int32)), .val (.int (4 : Int32)), .val (.int (2 : Int32))] []))
    refine Goes.pre (fun t kt => XS.aloadN X0.here hx rfl (hb hby d13_10) rfl rfl kt) ?_
    show Goes p e below s _ _ _ (s₁.setTop (mkF m 11 #[.val (.ref it), .val (.int (0 : Int32)), .val (.int (4 : Int32)), .val (.int (2 : Int32))] [(.ref it)]))
    refine Goes.pre (fun t kt => XS.iloadN X0.here hx rfl (hb hby d13_11) rfl kt) ?_
    show Goes p e below s _ _ _ (s₁.setTop (mkF m 12 #[.val (.ref it), .val (.int (0 : Int32)), .val (.int (4 : Int32)), .val (.int (2 : Int32))] [(.int (0 : Int32)), (.ref it)]))
    refine Goes.pre (fun t kt => XS.iloadN X0.here hx rfl (hb hby d13_12) rfl kt) ?_
    show Goes p e below s _ _ _ (s₁.setTop (mkF m 13 #[.val (.ref it), .val (.int (0 : Int32)), .val (.int (4 : Int32)), .val (.int (2 : Int32))] [(.int (4 : Int32)), (.int (0 : Int32)), (.ref it)]))
    refine Goes.pre (fun t kt => XS.iadd X0.here hx rfl (hb hby d13_13) rfl kt) ?_
    show Goes p e below s _ _ _ (s₁.setTop (mkF m 14 #[.val (.ref it), .val (.int (0 : Int32)), .val (.int (4 : Int32)), .val (.int (2 : Int32))] [(.int (4 : Int32)), (.ref it)]))
    refine Goes.pre (fun t kt => XS.iconst X0.here hx rfl (hb hby d13_14) kt) ?_
    show Goes p e below s _ _ _ (s₁.setTop (mkF m 15 #[.val (.ref it), .val (.int (0 : Int32)), .val (.int (4 : Int32)), .val (.int (2 : Int32))] [(.int (1 : Int32)), (.int (4 : Int32)), (.ref it)]))
    refine Goes.pre (fun t kt => XS.isub X0.here hx rfl (hb hby d13_15) rfl kt) ?_
    show Goes p e below s _ _ _ (s₁.setTop (mkF m 16 #[.val (.ref it), .val (.int (0 : Int32)), .val (.int (4 : Int32)), .val (.int (2 : Int32))] [(.int (3 : Int32)), (.ref it)]))
    refine Goes.pre (fun t kt => XS.iloadN X0.here hx rfl (hb hby d13_16) rfl kt) ?_
    show Goes p e below s _ _ _ (s₁.setTop (mkF m 17 #[.val (.ref it), .val (.int (0 : Int32)), .val (.int (4 : Int32)), .val (.int (2 : Int32))] [(.int (2 : Int32)), (.int (3 : Int32)), (.ref it)]))
    refine Goes.pre (fun t kt => XS.isub X0.here hx rfl (hb hby d13_17) rfl kt) ?_
    show Goes p e below s _ _ _ (s₁.setTop (mkF m 18 #[.val (.ref it), .val (.int (0 : Int32)), .val (.int (4 : Int32)), .val (.int (2 : Int32))] [(.int (1 : Int32)), (.ref it)]))
    obtain ⟨cl5, Ar5, aq5, aS5, aN5, aH5, aG5⟩ := pf_V_it
    have V5 : Arv Z h0 it kd .double (4 : Int32) [(.double w0), (.double w1), (.double w2), (.double w3)] (.double (0 : UInt64)) := ⟨cl5, Ar5, aq5, aS5, aN5, aH5, aG5⟩
    have hin5 : ¬ ((1 : Int32) < 0 ∨ cl5.slots.size ≤ ((1 : Int32)).toNatClampNeg) := inb_of aS5 ⟨by decide, by decide⟩
    have hat5 : cl5.slots[((1 : Int32)).toNatClampNeg]? = some (.double w1) := aH5.at hin5 rfl
    refine Goes.pre (X0.daload hx (j := (1 : Int32)) (v := (.double w1)) (by rw [e0]; exact Ar5.1) (State.isArrayOf_alike hZ.alike Ar5.2.1) Ar5.2.2 hin5 hat5 (g := (mkF m 18 #[.val (.ref it), .val (.int (0 : Int32)), .val (.int (4 : Int32)), .val (.int (2 : Int32))] [(.int (1 : Int32)), (.ref it)])) rfl rfl (hb hby d13_18)) ?_
    show Goes p e below s _ _ _ (s₁.setTop (mkF m 19 #[.val (.ref it), .val (.int (0 : Int32)), .val (.int (4 : Int32)), .val (.int (2 : Int32))] [(.double w1)]))
    refine Goes.ret X0 (some (.double w1)) (fun h => by rw [Bd.returns] at h; cases h) (BodyLoose.notSynchronized Bd) (by decide) (by decide) (fun fs hr => retOut X0 hx (t := .double) Bd.returns rfl (Or.inr (Or.inr (Or.inl ⟨rfl, rfl, _, rfl⟩))) (hb hby d13_19) hr) ?_
    show Q_rm13_2 Z it (0 : Int32) (4 : Int32) kd w0 w1 w2 w3 h0 n0 _ s₁.heap _
    rw [e0]
    exact ⟨(by rw [show own_e (0 : Int32) (4 : Int32) (2 : Int32) w0 w1 w2 w3 = w1 by simp [own_e, own_pick]]), N0, rfl⟩
  · show Goes p e below s _ _ _ (s₁.setTop (mkF m 0 #[.val (.ref it), .val (.int (1 : Int32)), .val (.int (1 : Int32)), .val (.int (2 : Int32))] []))
    refine Goes.pre (fun t kt => XS.iloadN X0.here hx rfl (hb hby d13_0) rfl kt) ?_
    show Goes p e below s _ _ _ (s₁.setTop (mkF m 1 #[.val (.ref it), .val (.int (1 : Int32)), .val (.int (1 : Int32)), .val (.int (2 : Int32))] [(.int (1 : Int32))]))
    refine Goes.pre (fun t kt => XS.iloadN X0.here hx rfl (hb hby d13_1) rfl kt) ?_
    show Goes p e below s _ _ _ (s₁.setTop (mkF m 2 #[.val (.ref it), .val (.int (1 : Int32)), .val (.int (1 : Int32)), .val (.int (2 : Int32))] [(.int (2 : Int32)), (.int (1 : Int32))]))
    refine Goes.pre (fun t kt => XS.icmpNo X0.here hx rfl (hb hby d13_2) rfl (Jvm.Free.XT.ii_gt_f ((by decide))) kt) ?_
    show Goes p e below s _ _ _ (s₁.setTop (mkF m 5 #[.val (.ref it), .val (.int (1 : Int32)), .val (.int (1 : Int32)), .val (.int (2 : Int32))] []))
    refine Goes.pre (fun t kt => XS.iloadN X0.here hx rfl (hb hby d13_5) rfl kt) ?_
    show Goes p e below s _ _ _ (s₁.setTop (mkF m 6 #[.val (.ref it), .val (.int (1 : Int32)), .val (.int (1 : Int32)), .val (.int (2 : Int32))] [(.int (2 : Int32))]))
    refine Goes.pre (fun t kt => XS.iloadN X0.here hx rfl (hb hby d13_6) rfl kt) ?_
    show Goes p e below s _ _ _ (s₁.setTop (mkF m 7 #[.val (.ref it), .val (.int (1 : Int32)), .val (.int (1 : Int32)), .val (.int (2 : Int32))] [(.int (1 : Int32)), (.int (2 : Int32))]))
    refine Goes.pre (fun t kt => XS.icmpYes X0.here hx rfl (pc0 := 7) (pc' := 20) rfl (hb hby d13_7) rfl (Jvm.Free.XT.ii_ge_t ((by decide))) (by decide) (by decide) kt) ?_
    show Goes p e below s _ _ _ (s₁.setTop (mkF m 20 #[.val (.ref it), .val (.int (1 : Int32)), .val (.int (1 : Int32)), .val (.int (2 : Int32))] []))
    refine Goes.pre (fun t kt => XS.aloadN X0.here hx rfl (hb hby d13_20) rfl rfl kt) ?_
    show Goes p e below s _ _ _ (s₁.setTop (mkF m 21 #[.val (.ref it), .val (.int (1 : Int32)), .val (.int (1 : Int32)), .val (.int (2 : Int32))] [(.ref it)]))
    refine Goes.pre (fun t kt => XS.iloadN X0.here hx rfl (hb hby d13_21) rfl kt) ?_
    show Goes p e below s _ _ _ (s₁.setTop (mkF m 22 #[.val (.ref it), .val (.int (1 : Int32)), .val (.int (1 : Int32)), .val (.int (2 : Int32))] [(.int (2 : Int32)), (.ref it)]))
    obtain ⟨cl6, Ar6, aq6, aS6, aN6, aH6, aG6⟩ := pf_V_it
    have V6 : Arv Z h0 it kd .double (4 : Int32) [(.double w0), (.double w1), (.double w2), (.double w3)] (.double (0 : UInt64)) := ⟨cl6, Ar6, aq6, aS6, aN6, aH6, aG6⟩
    have hin6 : ¬ ((2 : Int32) < 0 ∨ cl6.slots.size ≤ ((2 : Int32)).toNatClampNeg) := inb_of aS6 ⟨by decide, by decide⟩
    have hat6 : cl6.slots[((2 : Int32)).toNatClampNeg]? = some (.double w2) := aH6.at hin6 rfl
    refine Goes.pre (X0.daload hx (j := (2 : Int32)) (v := (.double w2)) (by rw [e0]; exact Ar6.1) (State.isArrayOf_alike hZ.alike Ar6.2.1) Ar6.2.2 hin6 hat6 (g := (mkF m 22 #[.val (.ref it), .val (.int (1 : Int32)), .val (.int (1 : Int32)), .val (.int (2 : Int32))] [(.int (2 : Int32)), (.ref it)])) rfl rfl (hb hby d13_22)) ?_
    show Goes p e below s _ _ _ (s₁.setTop (mkF m 23 #[.val (.ref it), .val (.int (1 : Int32)), .val (.int (1 : Int32)), .val (.int (2 : Int32))] [(.double w2)]))
    refine Goes.ret X0 (some (.double w2)) (fun h => by rw [Bd.returns] at h; cases h) (BodyLoose.notSynchronized Bd) (by decide) (by decide) (fun fs hr => retOut X0 hx (t := .double) Bd.returns rfl (Or.inr (Or.inr (Or.inl ⟨rfl, rfl, _, rfl⟩))) (hb hby d13_23) hr) ?_
    show Q_rm13_2 Z it (1 : Int32) (1 : Int32) kd w0 w1 w2 w3 h0 n0 _ s₁.heap _
    rw [e0]
    exact ⟨(by rw [show own_e (1 : Int32) (1 : Int32) (2 : Int32) w0 w1 w2 w3 = w2 by simp [own_e, own_pick]]), N0, rfl⟩
  · show Goes p e below s _ _ _ (s₁.setTop (mkF m 0 #[.val (.ref it), .val (.int (1 : Int32)), .val (.int (2 : Int32)), .val (.int (2 : Int32))] []))
    refine Goes.pre (fun t kt => XS.iloadN X0.here hx rfl (hb hby d13_0) rfl kt) ?_
    show Goes p e below s _ _ _ (s₁.setTop (mkF m 1 #[.val (.ref it), .val (.int (1 : Int32)), .val (.int (2 : Int32)), .val (.int (2 : Int32))] [(.int (1 : Int32))]))
    refine Goes.pre (fun t kt => XS.iloadN X0.here hx rfl (hb hby d13_1) rfl kt) ?_
    show Goes p e below s _ _ _ (s₁.setTop (mkF m 2 #[.val (.ref it), .val (.int (1 : Int32)), .val (.int (2 : Int32)), .val (.int (2 : Int32))] [(.int (2 : Int32)), (.int (1 : Int32))]))
    refine Goes.pre (fun t kt => XS.icmpNo X0.here hx rfl (hb hby d13_2) rfl (Jvm.Free.XT.ii_gt_f ((by decide))) kt) ?_
    show Goes p e below s _ _ _ (s₁.setTop (mkF m 5 #[.val (.ref it), .val (.int (1 : Int32)), .val (.int (2 : Int32)), .val (.int (2 : Int32))] []))
    refine Goes.pre (fun t kt => XS.iloadN X0.here hx rfl (hb hby d13_5) rfl kt) ?_
    show Goes p e below s _ _ _ (s₁.setTop (mkF m 6 #[.val (.ref it), .val (.int (1 : Int32)), .val (.int (2 : Int32)), .val (.int (2 : Int32))] [(.int (2 : Int32))]))
    refine Goes.pre (fun t kt => XS.iloadN X0.here hx rfl (hb hby d13_6) rfl kt) ?_
    show Goes p e below s _ _ _ (s₁.setTop (mkF m 7 #[.val (.ref it), .val (.int (1 : Int32)), .val (.int (2 : Int32)), .val (.int (2 : Int32))] [(.int (2 : Int32)), (.int (2 : Int32))]))
    refine Goes.pre (fun t kt => XS.icmpYes X0.here hx rfl (pc0 := 7) (pc' := 20) rfl (hb hby d13_7) rfl (Jvm.Free.XT.ii_ge_t ((by decide))) (by decide) (by decide) kt) ?_
    show Goes p e below s _ _ _ (s₁.setTop (mkF m 20 #[.val (.ref it), .val (.int (1 : Int32)), .val (.int (2 : Int32)), .val (.int (2 : Int32))] []))
    refine Goes.pre (fun t kt => XS.aloadN X0.here hx rfl (hb hby d13_20) rfl rfl kt) ?_
    show Goes p e below s _ _ _ (s₁.setTop (mkF m 21 #[.val (.ref it), .val (.int (1 : Int32)), .val (.int (2 : Int32)), .val (.int (2 : Int32))] [(.ref it)]))
    refine Goes.pre (fun t kt => XS.iloadN X0.here hx rfl (hb hby d13_21) rfl kt) ?_
    show Goes p e below s _ _ _ (s₁.setTop (mkF m 22 #[.val (.ref it), .val (.int (1 : Int32)), .val (.int (2 : Int32)), .val (.int (2 : Int32))] [(.int (2 : Int32)), (.ref it)]))
    obtain ⟨cl7, Ar7, aq7, aS7, aN7, aH7, aG7⟩ := pf_V_it
    have V7 : Arv Z h0 it kd .double (4 : Int32) [(.double w0), (.double w1), (.double w2), (.double w3)] (.double (0 : UInt64)) := ⟨cl7, Ar7, aq7, aS7, aN7, aH7, aG7⟩
    have hin7 : ¬ ((2 : Int32) < 0 ∨ cl7.slots.size ≤ ((2 : Int32)).toNatClampNeg) := inb_of aS7 ⟨by decide, by decide⟩
    have hat7 : cl7.slots[((2 : Int32)).toNatClampNeg]? = some (.double w2) := aH7.at hin7 rfl
    refine Goes.pre (X0.daload hx (j := (2 : Int32)) (v := (.double w2)) (by rw [e0]; exact Ar7.1) (State.isArrayOf_alike hZ.alike Ar7.2.1) Ar7.2.2 hin7 hat7 (g := (mkF m 22 #[.val (.ref it), .val (.int (1 : Int32)), .val (.int (2 : Int32)), .val (.int (2 : Int32))] [(.int (2 : Int32)), (.ref it)])) rfl rfl (hb hby d13_22)) ?_
    show Goes p e below s _ _ _ (s₁.setTop (mkF m 23 #[.val (.ref it), .val (.int (1 : Int32)), .val (.int (2 : Int32)), .val (.int (2 : Int32))] [(.double w2)]))
    refine Goes.ret X0 (some (.double w2)) (fun h => by rw [Bd.returns] at h; cases h) (BodyLoose.notSynchronized Bd) (by decide) (by decide) (fun fs hr => retOut X0 hx (t := .double) Bd.returns rfl (Or.inr (Or.inr (Or.inl ⟨rfl, rfl, _, rfl⟩))) (hb hby d13_23) hr) ?_
    show Q_rm13_2 Z it (1 : Int32) (2 : Int32) kd w0 w1 w2 w3 h0 n0 _ s₁.heap _
    rw [e0]
    exact ⟨(by rw [show own_e (1 : Int32) (2 : Int32) (2 : Int32) w0 w1 w2 w3 = w2 by simp [own_e, own_pick]]), N0, rfl⟩
  · show Goes p e below s _ _ _ (s₁.setTop (mkF m 0 #[.val (.ref it), .val (.int (1 : Int32)), .val (.int (3 : Int32)), .val (.int (2 : Int32))] []))
    refine Goes.pre (fun t kt => XS.iloadN X0.here hx rfl (hb hby d13_0) rfl kt) ?_
    show Goes p e below s _ _ _ (s₁.setTop (mkF m 1 #[.val (.ref it), .val (.int (1 : Int32)), .val (.int (3 : Int32)), .val (.int (2 : Int32))] [(.int (1 : Int32))]))
    refine Goes.pre (fun t kt => XS.iloadN X0.here hx rfl (hb hby d13_1) rfl kt) ?_
    show Goes p e below s _ _ _ (s₁.setTop (mkF m 2 #[.val (.ref it), .val (.int (1 : Int32)), .val (.int (3 : Int32)), .val (.int (2 : Int32))] [(.int (2 : Int32)), (.int (1 : Int32))]))
    refine Goes.pre (fun t kt => XS.icmpNo X0.here hx rfl (hb hby d13_2) rfl (Jvm.Free.XT.ii_gt_f ((by decide))) kt) ?_
    show Goes p e below s _ _ _ (s₁.setTop (mkF m 5 #[.val (.ref it), .val (.int (1 : Int32)), .val (.int (3 : Int32)), .val (.int (2 : Int32))] []))
    refine Goes.pre (fun t kt => XS.iloadN X0.here hx rfl (hb hby d13_5) rfl kt) ?_
    show Goes p e below s _ _ _ (s₁.setTop (mkF m 6 #[.val (.ref it), .val (.int (1 : Int32)), .val (.int (3 : Int32)), .val (.int (2 : Int32))] [(.int (2 : Int32))]))
    refine Goes.pre (fun t kt => XS.iloadN X0.here hx rfl (hb hby d13_6) rfl kt) ?_
    show Goes p e below s _ _ _ (s₁.setTop (mkF m 7 #[.val (.ref it), .val (.int (1 : Int32)), .val (.int (3 : Int32)), .val (.int (2 : Int32))] [(.int (3 : Int32)), (.int (2 : Int32))]))
    refine Goes.pre (fun t kt => XS.icmpNo X0.here hx rfl (hb hby d13_7) rfl (Jvm.Free.XT.ii_ge_f ((by decide))) kt) ?_
    show Goes p e below s _ _ _ (s₁.setTop (mkF m 10 #[.val (.ref it), .val (.int (1 : Int32)), .val (.int (3 : Int32)), .val (.int (2 : Int32))] []))
    refine Goes.pre (fun t kt => XS.aloadN X0.here hx rfl (hb hby d13_10) rfl rfl kt) ?_
    show Goes p e below s _ _ _ (s₁.setTop (mkF m 11 #[.val (.ref it), .val (.int (1 : Int32)), .val (.int (3 : Int32)), .val (.int (2 : Int32))] [(.ref it)]))
    refine Goes.pre (fun t kt => XS.iloadN X0.here hx rfl (hb hby d13_11) rfl kt) ?_
    show Goes p e below s _ _ _ (s₁.setTop (mkF m 12 #[.val (.ref it), .val (.int (1 : Int32)), .val (.int (3 : Int32)), .val (.int (2 : Int32))] [(.int (1 : Int32)), (.ref it)]))
    refine Goes.pre (fun t kt => XS.iloadN X0.here hx rfl (hb hby d13_12) rfl kt) ?_
    show Goes p e below s _ _ _ (s₁.setTop (mkF m 13 #[.val (.ref it), .val (.int (1 : Int32)), .val (.int (3 : Int32)), .val (.int (2 : Int32))] [(.int (3 : Int32)), (.int (1 : Int32)), (.ref it)]))
    refine Goes.pre (fun t kt => XS.iadd X0.here hx rfl (hb hby d13_13) rfl kt) ?_
    show Goes p e below s _ _ _ (s₁.setTop (mkF m 14 #[.val (.ref it), .val (.int (1 : Int32)), .val (.int (3 : Int32)), .val (.int (2 : Int32))] [(.int (4 : Int32)), (.ref it)]))
    refine Goes.pre (fun t kt => XS.iconst X0.here hx rfl (hb hby d13_14) kt) ?_
    show Goes p e below s _ _ _ (s₁.setTop (mkF m 15 #[.val (.ref it), .val (.int (1 : Int32)), .val (.int (3 : Int32)), .val (.int (2 : Int32))] [(.int (1 : Int32)), (.int (4 : Int32)), (.ref it)]))
    refine Goes.pre (fun t kt => XS.isub X0.here hx rfl (hb hby d13_15) rfl kt) ?_
    show Goes p e below s _ _ _ (s₁.setTop (mkF m 16 #[.val (.ref it), .val (.int (1 : Int32)), .val (.int (3 : Int32)), .val (.int (2 : Int32))] [(.int (3 : Int32)), (.ref it)]))
    refine Goes.pre (fun t kt => XS.iloadN X0.here hx rfl (hb hby d13_16) rfl kt) ?_
    show Goes p e below s _ _ _ (s₁.setTop (mkF m 17 #[.val (.ref it), .val (.int (1 : Int32)), .val (.int (3 : Int32)), .val (.int (2 : Int32))] [(.int (2 : Int32)), (.int (3 : Int32)), (.ref it)]))
    refine Goes.pre (fun t kt => XS.isub X0.here hx rfl (hb hby d13_17) rfl kt) ?_
    show Goes p e below s _ _ _ (s₁.setTop (mkF m 18 #[.val (.ref it), .val (.int (1 : Int32)), .val (.int (3 : Int32)), .val (.int (2 : Int32))] [(.int (1 : Int32)), (.ref it)]))
    obtain ⟨cl8, Ar8, aq8, aS8, aN8, aH8, aG8⟩ := pf_V_it
    have V8 : Arv Z h0 it kd .double (4 : Int32) [(.double w0), (.double w1), (.double w2), (.double w3)] (.double (0 : UInt64)) := ⟨cl8, Ar8, aq8, aS8, aN8, aH8, aG8⟩
    have hin8 : ¬ ((1 : Int32) < 0 ∨ cl8.slots.size ≤ ((1 : Int32)).toNatClampNeg) := inb_of aS8 ⟨by decide, by decide⟩
    have hat8 : cl8.slots[((1 : Int32)).toNatClampNeg]? = some (.double w1) := aH8.at hin8 rfl
    refine Goes.pre (X0.daload hx (j := (1 : Int32)) (v := (.double w1)) (by rw [e0]; exact Ar8.1) (State.isArrayOf_alike hZ.alike Ar8.2.1) Ar8.2.2 hin8 hat8 (g := (mkF m 18 #[.val (.ref it), .val (.int (1 : Int32)), .val (.int (3 : Int32)), .val (.int (2 : Int32))] [(.int (1 : Int32)), (.ref it)])) rfl rfl (hb hby d13_18)) ?_
    show Goes p e below s _ _ _ (s₁.setTop (mkF m 19 #[.val (.ref it), .val (.int (1 : Int32)), .val (.int (3 : Int32)), .val (.int (2 : Int32))] [(.double w1)]))
    refine Goes.ret X0 (some (.double w1)) (fun h => by rw [Bd.returns] at h; cases h) (BodyLoose.notSynchronized Bd) (by decide) (by decide) (fun fs hr => retOut X0 hx (t := .double) Bd.returns rfl (Or.inr (Or.inr (Or.inl ⟨rfl, rfl, _, rfl⟩))) (hb hby d13_19) hr) ?_
    show Q_rm13_2 Z it (1 : Int32) (3 : Int32) kd w0 w1 w2 w3 h0 n0 _ s₁.heap _
    rw [e0]
    exact ⟨(by rw [show own_e (1 : Int32) (3 : Int32) (2 : Int32) w0 w1 w2 w3 = w1 by simp [own_e, own_pick]]), N0, rfl⟩
  · show Goes p e below s _ _ _ (s₁.setTop (mkF m 0 #[.val (.ref it), .val (.int (1 : Int32)), .val (.int (4 : Int32)), .val (.int (2 : Int32))] []))
    refine Goes.pre (fun t kt => XS.iloadN X0.here hx rfl (hb hby d13_0) rfl kt) ?_
    show Goes p e below s _ _ _ (s₁.setTop (mkF m 1 #[.val (.ref it), .val (.int (1 : Int32)), .val (.int (4 : Int32)), .val (.int (2 : Int32))] [(.int (1 : Int32))]))
    refine Goes.pre (fun t kt => XS.iloadN X0.here hx rfl (hb hby d13_1) rfl kt) ?_
    show Goes p e below s _ _ _ (s₁.setTop (mkF m 2 #[.val (.ref it), .val (.int (1 : Int32)), .val (.int (4 : Int32)), .val (.int (2 : Int32))] [(.int (2 : Int32)), (.int (1 : Int32))]))
    refine Goes.pre (fun t kt => XS.icmpNo X0.here hx rfl (hb hby d13_2) rfl (Jvm.Free.XT.ii_gt_f ((by decide))) kt) ?_
    show Goes p e below s _ _ _ (s₁.setTop (mkF m 5 #[.val (.ref it), .val (.int (1 : Int32)), .val (.int (4 : Int32)), .val (.int (2 : Int32))] []))
    refine Goes.pre (fun t kt => XS.iloadN X0.here hx rfl (hb hby d13_5) rfl kt) ?_
    show Goes p e below s _ _ _ (s₁.setTop (mkF m 6 #[.val (.ref it), .val (.int (1 : Int32)), .val (.int (4 : Int32)), .val (.int (2 : Int32))] [(.int (2 : Int32))]))
    refine Goes.pre (fun t kt => XS.iloadN X0.here hx rfl (hb hby d13_6) rfl kt) ?_
    show Goes p e below s _ _ _ (s₁.setTop (mkF m 7 #[.val (.ref it), .val (.int (1 : Int32)), .val (.int (4 : Int32)), .val (.int (2 : Int32))] [(.int (4 : Int32)), (.int (2 : Int32))]))
    refine Goes.pre (fun t kt => XS.icmpNo X0.here hx rfl (hb hby d13_7) rfl (Jvm.Free.XT.ii_ge_f ((by decide))) kt) ?_
    show Goes p e below s _ _ _ (s₁.setTop (mkF m 10 #[.val (.ref it), .val (.int (1 : Int32)), .val (.int (4 : Int32)), .val (.int (2 : Int32))] []))
    refine Goes.pre (fun t kt => XS.aloadN X0.here hx rfl (hb hby d13_10) rfl rfl kt) ?_
    show Goes p e below s _ _ _ (s₁.setTop (mkF m 11 #[.val (.ref it), .val (.int (1 : Int32)), .val (.int (4 : Int32)), .val (.int (2 : Int32))] [(.ref it)]))
    refine Goes.pre (fun t kt => XS.iloadN X0.here hx rfl (hb hby d13_11) rfl kt) ?_
    show Goes p e below s _ _ _ (s₁.setTop (mkF m 12 #[.val (.ref it), .val (.int (1 : Int32)), .val (.int (4 : Int32)), .val (.int (2 : Int32))] [(.int (1 : Int32)), (.ref it)]))
    refine Goes.pre (fun t kt => XS.iloadN X0.here hx rfl (hb hby d13_12) rfl kt) ?_
    show Goes p e below s _ _ _ (s₁.setTop (mkF m 13 #[.val (.ref it), .val (.int (1 : Int32)), .val (.int (4 : Int32)), .val (.int (2 : Int32))] [(.int (4 : Int32)), (.int (1 : Int32)), (.ref it)]))
    refine Goes.pre (fun t kt => XS.iadd X0.here hx rfl (hb hby d13_13) rfl kt) ?_
    show Goes p e below s _ _ _ (s₁.setTop (mkF m 14 #[.val (.ref it), .val (.int (1 : Int32)), .val (.int (4 : Int32)), .val (.int (2 : Int32))] [(.int (5 : Int32)), (.ref it)]))
    refine Goes.pre (fun t kt => XS.iconst X0.here hx rfl (hb hby d13_14) kt) ?_
    show Goes p e below s _ _ _ (s₁.setTop (mkF m 15 #[.val (.ref it), .val (.int (1 : Int32)), .val (.int (4 : Int32)), .val (.int (2 : Int32))] [(.int (1 : Int32)), (.int (5 : Int32)), (.ref it)]))
    refine Goes.pre (fun t kt => XS.isub X0.here hx rfl (hb hby d13_15) rfl kt) ?_
    show Goes p e below s _ _ _ (s₁.setTop (mkF m 16 #[.val (.ref it), .val (.int (1 : Int32)), .val (.int (4 : Int32)), .val (.int (2 : Int32))] [(.int (4 : Int32)), (.ref it)]))
    refine Goes.pre (fun t kt => XS.iloadN X0.here hx rfl (hb hby d13_16) rfl kt) ?_
    show Goes p e below s _ _ _ (s₁.setTop (mkF m 17 #[.val (.ref it), .val (.int (1 : Int32)), .val (.int (4 : Int32)), .val (.int (2 : Int32))] [(.int (2 : Int32)), (.int (4 : Int32)), (.ref it)]))
    refine Goes.pre (fun t kt => XS.isub X0.here hx rfl (hb hby d13_17) rfl kt) ?_
    show Goes p e below s _ _ _ (s₁.setTop (mkF m 18 #[.val (.ref it), .val (.int (1 : Int32)), .val (.int (4 : Int32)), .val (.int (2 : Int32))] [(.int (2 : Int32)), (.ref it)]))
    obtain ⟨cl9, Ar9, aq9, aS9, aN9, aH9, aG9⟩ := pf_V_it
    have V9 : Arv Z h0 it kd .double (4 : Int32) [(.double w0), (.double w1), (.double w2), (.double w3)] (.double (0 : UInt64)) := ⟨cl9, Ar9, aq9, aS9, aN9, aH9, aG9⟩
    have hin9 : ¬ ((2 : Int32) < 0 ∨ cl9.slots.size ≤ ((2 : Int32)).toNatClampNeg) := inb_of aS9 ⟨by decide, by decide⟩
    have hat9 : cl9.slots[((2 : Int32)).toNatClampNeg]? = some (.double w2) := aH9.at hin9 rfl
    refine Goes.pre (X0.daload hx (j := (2 : Int32)) (v := (.double w2)) (by rw [e0]; exact Ar9.1) (State.isArrayOf_alike hZ.alike Ar9.2.1) Ar9.2.2 hin9 hat9 (g := (mkF m 18 #[.val (.ref it), .val (.int (1 : Int32)), .val (.int (4 : Int32)), .val (.int (2 : Int32))] [(.int (2 : Int32)), (.ref it)])) rfl rfl (hb hby d13_18)) ?_
    show Goes p e below s _ _ _ (s₁.setTop (mkF m 19 #[.val (.ref it), .val (.int (1 : Int32)), .val (.int (4 : Int32)), .val (.int (2 : Int32))] [(.double w2)]))
    refine Goes.ret X0 (some (.double w2)) (fun h => by rw [Bd.returns] at h; cases h) (BodyLoose.notSynchronized Bd) (by decide) (by decide) (fun fs hr => retOut X0 hx (t := .double) Bd.returns rfl (Or.inr (Or.inr (Or.inl ⟨rfl, rfl, _, rfl⟩))) (hb hby d13_19) hr) ?_
    show Q_rm13_2 Z it (1 : Int32) (4 : Int32) kd w0 w1 w2 w3 h0 n0 _ s₁.heap _
    rw [e0]
    exact ⟨(by rw [show own_e (1 : Int32) (4 : Int32) (2 : Int32) w0 w1 w2 w3 = w2 by simp [own_e, own_pick]]), N0, rfl⟩
  · show Goes p e below s _ _ _ (s₁.setTop (mkF m 0 #[.val (.ref it), .val (.int (2 : Int32)), .val (.int (2 : Int32)), .val (.int (2 : Int32))] []))
    refine Goes.pre (fun t kt => XS.iloadN X0.here hx rfl (hb hby d13_0) rfl kt) ?_
    show Goes p e below s _ _ _ (s₁.setTop (mkF m 1 #[.val (.ref it), .val (.int (2 : Int32)), .val (.int (2 : Int32)), .val (.int (2 : Int32))] [(.int (2 : Int32))]))
    refine Goes.pre (fun t kt => XS.iloadN X0.here hx rfl (hb hby d13_1) rfl kt) ?_
    show Goes p e below s _ _ _ (s₁.setTop (mkF m 2 #[.val (.ref it), .val (.int (2 : Int32)), .val (.int (2 : Int32)), .val (.int (2 : Int32))] [(.int (2 : Int32)), (.int (2 : Int32))]))
    refine Goes.pre (fun t kt => XS.icmpNo X0.here hx rfl (hb hby d13_2) rfl (Jvm.Free.XT.ii_gt_f ((by decide))) kt) ?_
    show Goes p e below s _ _ _ (s₁.setTop (mkF m 5 #[.val (.ref it), .val (.int (2 : Int32)), .val (.int (2 : Int32)), .val (.int (2 : Int32))] []))
    refine Goes.pre (fun t kt => XS.iloadN X0.here hx rfl (hb hby d13_5) rfl kt) ?_
    show Goes p e below s _ _ _ (s₁.setTop (mkF m 6 #[.val (.ref it), .val (.int (2 : Int32)), .val (.int (2 : Int32)), .val (.int (2 : Int32))] [(.int (2 : Int32))]))
    refine Goes.pre (fun t kt => XS.iloadN X0.here hx rfl (hb hby d13_6) rfl kt) ?_
    show Goes p e below s _ _ _ (s₁.setTop (mkF m 7 #[.val (.ref it), .val (.int (2 : Int32)), .val (.int (2 : Int32)), .val (.int (2 : Int32))] [(.int (2 : Int32)), (.int (2 : Int32))]))
    refine Goes.pre (fun t kt => XS.icmpYes X0.here hx rfl (pc0 := 7) (pc' := 20) rfl (hb hby d13_7) rfl (Jvm.Free.XT.ii_ge_t ((by decide))) (by decide) (by decide) kt) ?_
    show Goes p e below s _ _ _ (s₁.setTop (mkF m 20 #[.val (.ref it), .val (.int (2 : Int32)), .val (.int (2 : Int32)), .val (.int (2 : Int32))] []))
    refine Goes.pre (fun t kt => XS.aloadN X0.here hx rfl (hb hby d13_20) rfl rfl kt) ?_
    show Goes p e below s _ _ _ (s₁.setTop (mkF m 21 #[.val (.ref it), .val (.int (2 : Int32)), .val (.int (2 : Int32)), .val (.int (2 : Int32))] [(.ref it)]))
    refine Goes.pre (fun t kt => XS.iloadN X0.here hx rfl (hb hby d13_21) rfl kt) ?_
    show Goes p e below s _ _ _ (s₁.setTop (mkF m 22 #[.val (.ref it), .val (.int (2 : Int32)), .val (.int (2 : Int32)), .val (.int (2 : Int32))] [(.int (2 : Int32)), (.ref it)]))
    obtain ⟨cl10, Ar10, aq10, aS10, aN10, aH10, aG10⟩ := pf_V_it
    have V10 : Arv Z h0 it kd .double (4 : Int32) [(.double w0), (.double w1), (.double w2), (.double w3)] (.double (0 : UInt64)) := ⟨cl10, Ar10, aq10, aS10, aN10, aH10, aG10⟩
    have hin10 : ¬ ((2 : Int32) < 0 ∨ cl10.slots.size ≤ ((2 : Int32)).toNatClampNeg) := inb_of aS10 ⟨by decide, by decide⟩
    have hat10 : cl10.slots[((2 : Int32)).toNatClampNeg]? = some (.double w2) := aH10.at hin10 rfl
    refine Goes.pre (X0.daload hx (j := (2 : Int32)) (v := (.double w2)) (by rw [e0]; exact Ar10.1) (State.isArrayOf_alike hZ.alike Ar10.2.1) Ar10.2.2 hin10 hat10 (g := (mkF m 22 #[.val (.ref it), .val (.int (2 : Int32)), .val (.int (2 : Int32)), .val (.int (2 : Int32))] [(.int (2 : Int32)), (.ref it)])) rfl rfl (hb hby d13_22)) ?_
    show Goes p e below s _ _ _ (s₁.setTop (mkF m 23 #[.val (.ref it), .val (.int (2 : Int32)), .val (.int (2 : Int32)), .val (.int (2 : Int32))] [(.double w2)]))
    refine Goes.ret X0 (some (.double w2)) (fun h => by rw [Bd.returns] at h; cases h) (BodyLoose.notSynchronized Bd) (by decide) (by decide) (fun fs hr => retOut X0 hx (t := .double) Bd.returns rfl (Or.inr (Or.inr (Or.inl ⟨rfl, rfl, _, rfl⟩))) (hb hby d13_23) hr) ?_
    show Q_rm13_2 Z it (2 : Int32) (2 : Int32) kd w0 w1 w2 w3 h0 n0 _ s₁.heap _
    rw [e0]
    exact ⟨(by rw [show own_e (2 : Int32) (2 : Int32) (2 : Int32) w0 w1 w2 w3 = w2 by simp [own_e, own_pick]]), N0, rfl⟩
  · show Goes p e below s _ _ _ (s₁.setTop (mkF m 0 #[.val (.ref it), .val (.int (2 : Int32)), .val (.int (3 : Int32)), .val (.int (2 : Int32))] []))
    refine Goes.pre (fun t kt => XS.iloadN X0.here hx rfl (hb hby d13_0) rfl kt) ?_
    show Goes p e below s _ _ _ (s₁.setTop (mkF m 1 #[.val (.ref it), .val (.int (2 : Int32)), .val (.int (3 : Int32)), .val (.int (2 : Int32))] [(.int (2 : Int32))]))
    refine Goes.pre (fun t kt => XS.iloadN X0.here hx rfl (hb hby d13_1) rfl kt) ?_
    show Goes p e below s _ _ _ (s₁.setTop (mkF m 2 #[.val (.ref it), .val (.int (2 : Int32)), .val (.int (3 : Int32)), .val (.int (2 : Int32))] [(.int (2 : Int32)), (.int (2 : Int32))]))
    refine Goes.pre (fun t kt => XS.icmpNo X0.here hx rfl (hb hby d13_2) rfl (Jvm.Free.XT.ii_gt_f ((by decide))) kt) ?_
    show Goes p e below s _ _ _ (s₁.setTop (mkF m 5 #[.val (.ref it), .val (.int (2 : Int32)), .val (.int (3 : Int32)), .val (.int (2 : Int32))] []))
    refine Goes.pre (fun t kt => XS.iloadN X0.here hx rfl (hb hby d13_5) rfl kt) ?_
    show Goes p e below s _ _ _ (s₁.setTop (mkF m 6 #[.val (.ref it), .val (.int (2 : Int32)), .val (.int (3 : Int32)), .val (.int (2 : Int32))] [(.int (2 : Int32))]))
    refine Goes.pre (fun t kt => XS.iloadN X0.here hx rfl (hb hby d13_6) rfl kt) ?_
    show Goes p e below s _ _ _ (s₁.setTop (mkF m 7 #[.val (.ref it), .val (.int (2 : Int32)), .val (.int (3 : Int32)), .val (.int (2 : Int32))] [(.int (3 : Int32)), (.int (2 : Int32))]))
    refine Goes.pre (fun t kt => XS.icmpNo X0.here hx rfl (hb hby d13_7) rfl (Jvm.Free.XT.ii_ge_f ((by decide))) kt) ?_
    show Goes p e below s _ _ _ (s₁.setTop (mkF m 10 #[.val (.ref it), .val (.int (2 : Int32)), .val (.int (3 : Int32)), .val (.int (2 : Int32))] []))
    refine Goes.pre (fun t kt => XS.aloadN X0.here hx rfl (hb hby d13_10) rfl rfl kt) ?_
    show Goes p e below s _ _ _ (s₁.setTop (mkF m 11 #[.val (.ref it), .val (.int (2 : Int32)), .val (.int (3 : Int32)), .val (.int (2 : Int32))] [(.ref it)]))
    refine Goes.pre (fun t kt => XS.iloadN X0.here hx rfl (hb hby d13_11) rfl kt) ?_
    show Goes p e below s _ _ _ (s₁.setTop (mkF m 12 #[.val (.ref it), .val (.int (2 : Int32)), .val (.int (3 : Int32)), .val (.int (2 : Int32))] [(.int (2 : Int32)), (.ref it)]))
    refine Goes.pre (fun t kt => XS.iloadN X0.here hx rfl (hb hby d13_12) rfl kt) ?_
    show Goes p e below s _ _ _ (s₁.setTop (mkF m 13 #[.val (.ref it), .val (.int (2 : Int32)), .val (.int (3 : Int32)), .val (.int (2 : Int32))] [(.int (3 : Int32)), (.int (2 : Int32)), (.ref it)]))
    refine Goes.pre (fun t kt => XS.iadd X0.here hx rfl (hb hby d13_13) rfl kt) ?_
    show Goes p e below s _ _ _ (s₁.setTop (mkF m 14 #[.val (.ref it), .val (.int (2 : Int32)), .val (.int (3 : Int32)), .val (.int (2 : Int32))] [(.int (5 : Int32)), (.ref it)]))
    refine Goes.pre (fun t kt => XS.iconst X0.here hx rfl (hb hby d13_14) kt) ?_
    show Goes p e below s _ _ _ (s₁.setTop (mkF m 15 #[.val (.ref it), .val (.int (2 : Int32)), .val (.int (3 : Int32)), .val (.int (2 : Int32))] [(.int (1 : Int32)), (.int (5 : Int32)), (.ref it)]))
    refine Goes.pre (fun t kt => XS.isub X0.here hx rfl (hb hby d13_15) rfl kt) ?_
    show Goes p e below s _ _ _ (s₁.setTop (mkF m 16 #[.val (.ref it), .val (.int (2 : Int32)), .val (.int (3 : Int32)), .val (.int (2 : Int32))] [(.int (4 : Int32)), (.ref it)]))
    refine Goes.pre (fun t kt => XS.iloadN X0.here hx rfl (hb hby d13_16) rfl kt) ?_
    show Goes p e below s _ _ _ (s₁.setTop (mkF m 17 #[.val (.ref it), .val (.int (2 : Int32)), .val (.int (3 : Int32)), .val (.int (2 : Int32))] [(.int (2 : Int32)), (.int (4 : Int32)), (.ref it)]))
    refine Goes.pre (fun t kt => XS.isub X0.here hx rfl (hb hby d13_17) rfl kt) ?_
    show Goes p e below s _ _ _ (s₁.setTop (mkF m 18 #[.val (.ref it), .val (.int (2 : Int32)), .val (.int (3 : Int32)), .val (.int (2 : Int32))] [(.int (2 : Int32)), (.ref it)]))
    obtain ⟨cl11, Ar11, aq11, aS11, aN11, aH11, aG11⟩ := pf_V_it
    have V11 : Arv Z h0 it kd .double (4 : Int32) [(.double w0), (.double w1), (.double w2), (.double w3)] (.double (0 : UInt64)) := ⟨cl11, Ar11, aq11, aS11, aN11, aH11, aG11⟩
    have hin11 : ¬ ((2 : Int32) < 0 ∨ cl11.slots.size ≤ ((2 : Int32)).toNatClampNeg) := inb_of aS11 ⟨by decide, by decide⟩
    have hat11 : cl11.slots[((2 : Int32)).toNatClampNeg]? = some (.double w2) := aH11.at hin11 rfl
    refine Goes.pre (X0.daload hx (j := (2 : Int32)) (v := (.double w2)) (by rw [e0]; exact Ar11.1) (State.isArrayOf_alike hZ.alike Ar11.2.1) Ar11.2.2 hin11 hat11 (g := (mkF m 18 #[.val (.ref it), .val (.int (2 : Int32)), .val (.int (3 : Int32)), .val (.int (2 : Int32))] [(.int (2 : Int32)), (.ref it)])) rfl rfl (hb hby d13_18)) ?_
    show Goes p e below s _ _ _ (s₁.setTop (mkF m 19 #[.val (.ref it), .val (.int (2 : Int32)), .val (.int (3 : Int32)), .val (.int (2 : Int32))] [(.double w2)]))
    refine Goes.ret X0 (some (.double w2)) (fun h => by rw [Bd.returns] at h; cases h) (BodyLoose.notSynchronized Bd) (by decide) (by decide) (fun fs hr => retOut X0 hx (t := .double) Bd.returns rfl (Or.inr (Or.inr (Or.inl ⟨rfl, rfl, _, rfl⟩))) (hb hby d13_19) hr) ?_
    show Q_rm13_2 Z it (2 : Int32) (3 : Int32) kd w0 w1 w2 w3 h0 n0 _ s₁.heap _
    rw [e0]
    exact ⟨(by rw [show own_e (2 : Int32) (3 : Int32) (2 : Int32) w0 w1 w2 w3 = w2 by simp [own_e, own_pick]]), N0, rfl⟩
  · show Goes p e below s _ _ _ (s₁.setTop (mkF m 0 #[.val (.ref it), .val (.int (2 : Int32)), .val (.int (4 : Int32)), .val (.int (2 : Int32))] []))
    refine Goes.pre (fun t kt => XS.iloadN X0.here hx rfl (hb hby d13_0) rfl kt) ?_
    show Goes p e below s _ _ _ (s₁.setTop (mkF m 1 #[.val (.ref it), .val (.int (2 : Int32)), .val (.int (4 : Int32)), .val (.int (2 : Int32))] [(.int (2 : Int32))]))
    refine Goes.pre (fun t kt => XS.iloadN X0.here hx rfl (hb hby d13_1) rfl kt) ?_
    show Goes p e below s _ _ _ (s₁.setTop (mkF m 2 #[.val (.ref it), .val (.int (2 : Int32)), .val (.int (4 : Int32)), .val (.int (2 : Int32))] [(.int (2 : Int32)), (.int (2 : Int32))]))
    refine Goes.pre (fun t kt => XS.icmpNo X0.here hx rfl (hb hby d13_2) rfl (Jvm.Free.XT.ii_gt_f ((by decide))) kt) ?_
    show Goes p e below s _ _ _ (s₁.setTop (mkF m 5 #[.val (.ref it), .val (.int (2 : Int32)), .val (.int (4 : Int32)), .val (.int (2 : Int32))] []))
    refine Goes.pre (fun t kt => XS.iloadN X0.here hx rfl (hb hby d13_5) rfl kt) ?_
    show Goes p e below s _ _ _ (s₁.setTop (mkF m 6 #[.val (.ref it), .val (.int (2 : Int32)), .val (.int (4 : Int32)), .val (.int (2 : Int32))] [(.int (2 : Int32))]))
    refine Goes.pre (fun t kt => XS.iloadN X0.here hx rfl (hb hby d13_6) rfl kt) ?_
    show Goes p e below s _ _ _ (s₁.setTop (mkF m 7 #[.val (.ref it), .val (.int (2 : Int32)), .val (.int (4 : Int32)), .val (.int (2 : Int32))] [(.int (4 : Int32)), (.int (2 : Int32))]))
    refine Goes.pre (fun t kt => XS.icmpNo X0.here hx rfl (hb hby d13_7) rfl (Jvm.Free.XT.ii_ge_f ((by decide))) kt) ?_
    show Goes p e below s _ _ _ (s₁.setTop (mkF m 10 #[.val (.ref it), .val (.int (2 : Int32)), .val (.int (4 : Int32)), .val (.int (2 : Int32))] []))
    refine Goes.pre (fun t kt => XS.aloadN X0.here hx rfl (hb hby d13_10) rfl rfl kt) ?_
    show Goes p e below s _ _ _ (s₁.setTop (mkF m 11 #[.val (.ref it), .val (.int (2 : Int32)), .val (.int (4 : Int32)), .val (.int (2 : Int32))] [(.ref it)]))
    refine Goes.pre (fun t kt => XS.iloadN X0.here hx rfl (hb hby d13_11) rfl kt) ?_
    show Goes p e below s _ _ _ (s₁.setTop (mkF m 12 #[.val (.ref it), .val (.int (2 : Int32)), .val (.int (4 : Int32)), .val (.int (2 : Int32))] [(.int (2 : Int32)), (.ref it)]))
    refine Goes.pre (fun t kt => XS.iloadN X0.here hx rfl (hb hby d13_12) rfl kt) ?_
    show Goes p e below s _ _ _ (s₁.setTop (mkF m 13 #[.val (.ref it), .val (.int (2 : Int32)), .val (.int (4 : Int32)), .val (.int (2 : Int32))] [(.int (4 : Int32)), (.int (2 : Int32)), (.ref it)]))
    refine Goes.pre (fun t kt => XS.iadd X0.here hx rfl (hb hby d13_13) rfl kt) ?_
    show Goes p e below s _ _ _ (s₁.setTop (mkF m 14 #[.val (.ref it), .val (.int (2 : Int32)), .val (.int (4 : Int32)), .val (.int (2 : Int32))] [(.int (6 : Int32)), (.ref it)]))
    refine Goes.pre (fun t kt => XS.iconst X0.here hx rfl (hb hby d13_14) kt) ?_
    show Goes p e below s _ _ _ (s₁.setTop (mkF m 15 #[.val (.ref it), .val (.int (2 : Int32)), .val (.int (4 : Int32)), .val (.int (2 : Int32))] [(.int (1 : Int32)), (.int (6 : Int32)), (.ref it)]))
    refine Goes.pre (fun t kt => XS.isub X0.here hx rfl (hb hby d13_15) rfl kt) ?_
    show Goes p e below s _ _ _ (s₁.setTop (mkF m 16 #[.val (.ref it), .val (.int (2 : Int32)), .val (.int (4 : Int32)), .val (.int (2 : Int32))] [(.int (5 : Int32)), (.ref it)]))
    refine Goes.pre (fun t kt => XS.iloadN X0.here hx rfl (hb hby d13_16) rfl kt) ?_
    show Goes p e below s _ _ _ (s₁.setTop (mkF m 17 #[.val (.ref it), .val (.int (2 : Int32)), .val (.int (4 : Int32)), .val (.int (2 : Int32))] [(.int (2 : Int32)), (.int (5 : Int32)), (.ref it)]))
    refine Goes.pre (fun t kt => XS.isub X0.here hx rfl (hb hby d13_17) rfl kt) ?_
    show Goes p e below s _ _ _ (s₁.setTop (mkF m 18 #[.val (.ref it), .val (.int (2 : Int32)), .val (.int (4 : Int32)), .val (.int (2 : Int32))] [(.int (3 : Int32)), (.ref it)]))
    obtain ⟨cl12, Ar12, aq12, aS12, aN12, aH12, aG12⟩ := pf_V_it
    have V12 : Arv Z h0 it kd .double (4 : Int32) [(.double w0), (.double w1), (.double w2), (.double w3)] (.double (0 : UInt64)) := ⟨cl12, Ar12, aq12, aS12, aN12, aH12, aG12⟩
    have hin12 : ¬ ((3 : Int32) < 0 ∨ cl12.slots.size ≤ ((3 : Int32)).toNatClampNeg) := inb_of aS12 ⟨by decide, by decide⟩
    have hat12 : cl12.slots[((3 : Int32)).toNatClampNeg]? = some (.double w3) := aH12.at hin12 rfl
    refine Goes.pre (X0.daload hx (j := (3 : Int32)) (v := (.double w3)) (by rw [e0]; exact Ar12.1) (State.isArrayOf_alike hZ.alike Ar12.2.1) Ar12.2.2 hin12 hat12 (g := (mkF m 18 #[.val (.ref it), .val (.int (2 : Int32)), .val (.int (4 : Int32)), .val (.int (2 : Int32))] [(.int (3 : Int32)), (.ref it)])) rfl rfl (hb hby d13_18)) ?_
    show Goes p e below s _ _ _ (s₁.setTop (mkF m 19 #[.val (.ref it), .val (.int (2 : Int32)), .val (.int (4 : Int32)), .val (.int (2 : Int32))] [(.double w3)]))
    refine Goes.ret X0 (some (.double w3)) (fun h => by rw [Bd.returns] at h; cases h) (BodyLoose.notSynchronized Bd) (by decide) (by decide) (fun fs hr => retOut X0 hx (t := .double) Bd.returns rfl (Or.inr (Or.inr (Or.inl ⟨rfl, rfl, _, rfl⟩))) (hb hby d13_19) hr) ?_
    show Q_rm13_2 Z it (2 : Int32) (4 : Int32) kd w0 w1 w2 w3 h0 n0 _ s₁.heap _
    rw [e0]
    exact ⟨(by rw [show own_e (2 : Int32) (4 : Int32) (2 : Int32) w0 w1 w2 w3 = w3 by simp [own_e, own_pick]]), N0, rfl⟩
  · show Goes p e below s _ _ _ (s₁.setTop (mkF m 0 #[.val (.ref it), .val (.int (3 : Int32)), .val (.int (3 : Int32)), .val (.int (2 : Int32))] []))
    refine Goes.pre (fun t kt => XS.iloadN X0.here hx rfl (hb hby d13_0) rfl kt) ?_
    show Goes p e below s _ _ _ (s₁.setTop (mkF m 1 #[.val (.ref it), .val (.int (3 : Int32)), .val (.int (3 : Int32)), .val (.int (2 : Int32))] [(.int (3 : Int32))]))
    refine Goes.pre (fun t kt => XS.iloadN X0.here hx rfl (hb hby d13_1) rfl kt) ?_
    show Goes p e below s _ _ _ (s₁.setTop (mkF m 2 #[.val (.ref it), .val (.int (3 : Int32)), .val (.int (3 : Int32)), .val (.int (2 : Int32))] [(.int (2 : Int32)), (.int (3 : Int32))]))
    refine Goes.pre (fun t kt => XS.icmpYes X0.here hx rfl (pc0 := 2) (pc' := 20) rfl (hb hby d13_2) rfl (Jvm.Free.XT.ii_gt_t ((by decide))) (by decide) (by decide) kt) ?_
    show Goes p e below s _ _ _ (s₁.setTop (mkF m 20 #[.val (.ref it), .val (.int (3 : Int32)), .val (.int (3 : Int32)), .val (.int (2 : Int32))] []))
    refine Goes.pre (fun t kt => XS.aloadN X0.here hx rfl (hb hby d13_20) rfl rfl kt) ?_
    show Goes p e below s _ _ _ (s₁.setTop (mkF m 21 #[.val (.ref it), .val (.int (3 : Int32)), .val (.int (3 : Int32)), .val (.int (2 : Int32))] [(.ref it)]))
    refine Goes.pre (fun t kt => XS.iloadN X0.here hx rfl (hb hby d13_21) rfl kt) ?_
    show Goes p e below s _ _ _ (s₁.setTop (mkF m 22 #[.val (.ref it), .val (.int (3 : Int32)), .val (.int (3 : Int32)), .val (.int (2 : Int32))] [(.int (2 : Int32)), (.ref it)]))
    obtain ⟨cl13, Ar13, aq13, aS13, aN13, aH13, aG13⟩ := pf_V_it
    have V13 : Arv Z h0 it kd .double (4 : Int32) [(.double w0), (.double w1), (.double w2), (.double w3)] (.double (0 : UInt64)) := ⟨cl13, Ar13, aq13, aS13, aN13, aH13, aG13⟩
    have hin13 : ¬ ((2 : Int32) < 0 ∨ cl13.slots.size ≤ ((2 : Int32)).toNatClampNeg) := inb_of aS13 ⟨by decide, by decide⟩
    have hat13 : cl13.slots[((2 : Int32)).toNatClampNeg]? = some (.double w2) := aH13.at hin13 rfl
    refine Goes.pre (X0.daload hx (j := (2 : Int32)) (v := (.double w2)) (by rw [e0]; exact Ar13.1) (State.isArrayOf_alike hZ.alike Ar13.2.1) Ar13.2.2 hin13 hat13 (g := (mkF m 22 #[.val (.ref it), .val (.int (3 : Int32)), .val (.int (3 : Int32)), .val (.int (2 : Int32))] [(.int (2 : Int32)), (.ref it)])) rfl rfl (hb hby d13_22)) ?_
    show Goes p e below s _ _ _ (s₁.setTop (mkF m 23 #[.val (.ref it), .val (.int (3 : Int32)), .val (.int (3 : Int32)), .val (.int (2 : Int32))] [(.double w2)]))
    refine Goes.ret X0 (some (.double w2)) (fun h => by rw [Bd.returns] at h; cases h) (BodyLoose.notSynchronized Bd) (by decide) (by decide) (fun fs hr => retOut X0 hx (t := .double) Bd.returns rfl (Or.inr (Or.inr (Or.inl ⟨rfl, rfl, _, rfl⟩))) (hb hby d13_23) hr) ?_
    show Q_rm13_2 Z it (3 : Int32) (3 : Int32) kd w0 w1 w2 w3 h0 n0 _ s₁.heap _
    rw [e0]
    exact ⟨(by rw [show own_e (3 : Int32) (3 : Int32) (2 : Int32) w0 w1 w2 w3 = w2 by simp [own_e, own_pick]]), N0, rfl⟩
  · show Goes p e below s _ _ _ (s₁.setTop (mkF m 0 #[.val (.ref it), .val (.int (3 : Int32)), .val (.int (4 : Int32)), .val (.int (2 : Int32))] []))
    refine Goes.pre (fun t kt => XS.iloadN X0.here hx rfl (hb hby d13_0) rfl kt) ?_
    show Goes p e below s _ _ _ (s₁.setTop (mkF m 1 #[.val (.ref it), .val (.int (3 : Int32)), .val (.int (4 : Int32)), .val (.int (2 : Int32))] [(.int (3 : Int32))]))
    refine Goes.pre (fun t kt => XS.iloadN X0.here hx rfl (hb hby d13_1) rfl kt) ?_
    show Goes p e below s _ _ _ (s₁.setTop (mkF m 2 #[.val (.ref it), .val (.int (3 : Int32)), .val (.int (4 : Int32)), .val (.int (2 : Int32))] [(.int (2 : Int32)), (.int (3 : Int32))]))
    refine Goes.pre (fun t kt => XS.icmpYes X0.here hx rfl (pc0 := 2) (pc' := 20) rfl (hb hby d13_2) rfl (Jvm.Free.XT.ii_gt_t ((by decide))) (by decide) (by decide) kt) ?_
    show Goes p e below s _ _ _ (s₁.setTop (mkF m 20 #[.val (.ref it), .val (.int (3 : Int32)), .val (.int (4 : Int32)), .val (.int (2 : Int32))] []))
    refine Goes.pre (fun t kt => XS.aloadN X0.here hx rfl (hb hby d13_20) rfl rfl kt) ?_
    show Goes p e below s _ _ _ (s₁.setTop (mkF m 21 #[.val (.ref it), .val (.int (3 : Int32)), .val (.int (4 : Int32)), .val (.int (2 : Int32))] [(.ref it)]))
    refine Goes.pre (fun t kt => XS.iloadN X0.here hx rfl (hb hby d13_21) rfl kt) ?_
    show Goes p e below s _ _ _ (s₁.setTop (mkF m 22 #[.val (.ref it), .val (.int (3 : Int32)), .val (.int (4 : Int32)), .val (.int (2 : Int32))] [(.int (2 : Int32)), (.ref it)]))
    obtain ⟨cl14, Ar14, aq14, aS14, aN14, aH14, aG14⟩ := pf_V_it
    have V14 : Arv Z h0 it kd .double (4 : Int32) [(.double w0), (.double w1), (.double w2), (.double w3)] (.double (0 : UInt64)) := ⟨cl14, Ar14, aq14, aS14, aN14, aH14, aG14⟩
    have hin14 : ¬ ((2 : Int32) < 0 ∨ cl14.slots.size ≤ ((2 : Int32)).toNatClampNeg) := inb_of aS14 ⟨by decide, by decide⟩
    have hat14 : cl14.slots[((2 : Int32)).toNatClampNeg]? = some (.double w2) := aH14.at hin14 rfl
    refine Goes.pre (X0.daload hx (j := (2 : Int32)) (v := (.double w2)) (by rw [e0]; exact Ar14.1) (State.isArrayOf_alike hZ.alike Ar14.2.1) Ar14.2.2 hin14 hat14 (g := (mkF m 22 #[.val (.ref it), .val (.int (3 : Int32)), .val (.int (4 : Int32)), .val (.int (2 : Int32))] [(.int (2 : Int32)), (.ref it)])) rfl rfl (hb hby d13_22)) ?_
    show Goes p e below s _ _ _ (s₁.setTop (mkF m 23 #[.val (.ref it), .val (.int (3 : Int32)), .val (.int (4 : Int32)), .val (.int (2 : Int32))] [(.double w2)]))
    refine Goes.ret X0 (some (.double w2)) (fun h => by rw [Bd.returns] at h; cases h) (BodyLoose.notSynchronized Bd) (by decide) (by decide) (fun fs hr => retOut X0 hx (t := .double) Bd.returns rfl (Or.inr (Or.inr (Or.inl ⟨rfl, rfl, _, rfl⟩))) (hb hby d13_23) hr) ?_
    show Q_rm13_2 Z it (3 : Int32) (4 : Int32) kd w0 w1 w2 w3 h0 n0 _ s₁.heap _
    rw [e0]
    exact ⟨(by rw [show own_e (3 : Int32) (4 : Int32) (2 : Int32) w0 w1 w2 w3 = w2 by simp [own_e, own_pick]]), N0, rfl⟩
  · show Goes p e below s _ _ _ (s₁.setTop (mkF m 0 #[.val (.ref it), .val (.int (4 : Int32)), .val (.int (4 : Int32)), .val (.int (2 : Int32))] []))
    refine Goes.pre (fun t kt => XS.iloadN X0.here hx rfl (hb hby d13_0) rfl kt) ?_
    show Goes p e below s _ _ _ (s₁.setTop (mkF m 1 #[.val (.ref it), .val (.int (4 : Int32)), .val (.int (4 : Int32)), .val (.int (2 : Int32))] [(.int (4 : Int32))]))
    refine Goes.pre (fun t kt => XS.iloadN X0.here hx rfl (hb hby d13_1) rfl kt) ?_
    show Goes p e below s _ _ _ (s₁.setTop (mkF m 2 #[.val (.ref it), .val (.int (4 : Int32)), .val (.int (4 : Int32)), .val (.int (2 : Int32))] [(.int (2 : Int32)), (.int (4 : Int32))]))
    refine Goes.pre (fun t kt => XS.icmpYes X0.here hx rfl (pc0 := 2) (pc' := 20) rfl (hb hby d13_2) rfl (Jvm.Free.XT.ii_gt_t ((by decide))) (by decide) (by decide) kt) ?_
    show Goes p e below s _ _ _ (s₁.setTop (mkF m 20 #[.val (.ref it), .val (.int (4 : Int32)), .val (.int (4 : Int32)), .val (.int (2 : Int32))] []))
    refine Goes.pre (fun t kt => XS.aloadN X0.here hx rfl (hb hby d13_20) rfl rfl kt) ?_
    show Goes p e below s _ _ _ (s₁.setTop (mkF m 21 #[.val (.ref it), .val (.int (4 : Int32)), .val (.int (4 : Int32)), .val (.int (2 : Int32))] [(.ref it)]))
    refine Goes.pre (fun t kt => XS.iloadN X0.here hx rfl (hb hby d13_21) rfl kt) ?_
    show Goes p e below s _ _ _ (s₁.setTop (mkF m 22 #[.val (.ref it), .val (.int (4 : Int32)), .val (.int (4 : Int32)), .val (.int (2 : Int32))] [(.int (2 : Int32)), (.ref it)]))
    obtain ⟨cl15, Ar15, aq15, aS15, aN15, aH15, aG15⟩ := pf_V_it
    have V15 : Arv Z h0 it kd .double (4 : Int32) [(.double w0), (.double w1), (.double w2), (.double w3)] (.double (0 : UInt64)) := ⟨cl15, Ar15, aq15, aS15, aN15, aH15, aG15⟩
    have hin15 : ¬ ((2 : Int32) < 0 ∨ cl15.slots.size ≤ ((2 : Int32)).toNatClampNeg) := inb_of aS15 ⟨by decide, by decide⟩
    have hat15 : cl15.slots[((2 : Int32)).toNatClampNeg]? = some (.double w2) := aH15.at hin15 rfl
    refine Goes.pre (X0.daload hx (j := (2 : Int32)) (v := (.double w2)) (by rw [e0]; exact Ar15.1) (State.isArrayOf_alike hZ.alike Ar15.2.1) Ar15.2.2 hin15 hat15 (g := (mkF m 22 #[.val (.ref it), .val (.int (4 : Int32)), .val (.int (4 : Int32)), .val (.int (2 : Int32))] [(.int (2 : Int32)), (.ref it)])) rfl rfl (hb hby d13_22)) ?_
    show Goes p e below s _ _ _ (s₁.setTop (mkF m 23 #[.val (.ref it), .val (.int (4 : Int32)), .val (.int (4 : Int32)), .val (.int (2 : Int32))] [(.double w2)]))
    refine Goes.ret X0 (some (.double w2)) (fun h => by rw [Bd.returns] at h; cases h) (BodyLoose.notSynchronized Bd) (by decide) (by decide) (fun fs hr => retOut X0 hx (t := .double) Bd.returns rfl (Or.inr (Or.inr (Or.inl ⟨rfl, rfl, _, rfl⟩))) (hb hby d13_23) hr) ?_
    show Q_rm13_2 Z it (4 : Int32) (4 : Int32) kd w0 w1 w2 w3 h0 n0 _ s₁.heap _
    rw [e0]
    exact ⟨(by rw [show own_e (4 : Int32) (4 : Int32) (2 : Int32) w0 w1 w2 w3 = w2 by simp [own_e, own_pick]]), N0, rfl⟩
def Q_rm13_3 (Z : State) (it : Addr) (lo : Int32) (hi : Int32) (kd : ClassId) (w0 : UInt64) (w1 : UInt64) (w2 : UInt64) (w3 : UInt64) (h0 : Heap) (n0 : Nat) (v : Option Value) (h : Heap) (L : List Loc) : Prop := v = some (.double (own_e lo hi (3 : Int32) w0 w1 w2 w3)) ∧ Fr n0 L ∧ h = h0
theorem ef_rm13_3 (m : MethodId) (it : Addr) (lo : Int32) (hi : Int32) : entryFrame m #[(.ref it), (.int lo), (.int hi), (.int (3 : Int32))] 4 = mkF m 0 #[.val (.ref it), .val (.int lo), .val (.int hi), .val (.int (3 : Int32))] [] := by first | (simp [entryFrame, mkF, argsToLocals, Value.category]; done) | rfl
set_option maxRecDepth 65536 in
set_option maxHeartbeats 40000000 in
theorem rm13_3 (l : Launch) (Z : State) (a0 : Array Value) (hw : ∀ d ∈ tables_1, d.before a0 Z = true) (ws : List Jvm.Cond) (it : Addr) (lo : Int32) (hi : Int32) (kd : ClassId) (w0 : UInt64) (w1 : UInt64) (w2 : UInt64) (w3 : UInt64) (h0 : Heap) (n0 : Nat) (Z0 : n0 ≤ h0.size) (pf_V_it : Arv Z h0 it kd .double (4 : Int32) [(.double w0), (.double w1), (.double w2), (.double w3)] (.double (0 : UInt64))) (hok : own_ok lo hi) :
    MetFree l (⟨"com/example/quantail/quantail/NumberArrayReversePinLaw", "expected", "([DIII)D"⟩ : MethodName) (head1 (Jvm.Cond.code (⟨"com/example/quantail/quantail/NumberArrayReversePinLaw", "expected", "([DIII)D"⟩ : MethodName) method_3_code 4 (some .double) :: ws) ({ frames := 0, cells := 0, slots := 0, locals := 0 } : Room)) (fun a U => a = #[(.ref it), (.int lo), (.int hi), (.int (3 : Int32))] ∧ Z.Warmed39 U.vm ∧ U.heap = h0) (fun _ _ _ _ _ => True) (fun _ U o U' => ∃ v L, o = .returned v ∧ Q_rm13_3 Z it lo hi kd w0 w1 w2 w3 h0 n0 v U'.heap L ∧ FrameEnd U o U' L ({ frames := 0, cells := 0, slots := 0, locals := 0 } : Room).cells ({ frames := 0, cells := 0, slots := 0, locals := 0 } : Room).slots) := by
  refine MetFree.of_bodySF (plainFor_of_name pn_7) hisR ?_
  intro p e s m args below meth c s₁ Bd hml0 hP hK
  obtain ⟨rfl, hZ, hh⟩ := hP
  have hx := Bd.exec
  have hby := Bd.bytes
  have hml : c.maxLocals = 4 := hml0
  have hown : s.vm.findClass "com/example/quantail/quantail/NumberArrayReversePinLaw" = some m.cls := findClass_of_methodNamed Bd.named
  have hnm := (name_of_methodNamed Bd.named Bd.method).1
  have X0 : Stand p l e ({ frames := 0, cells := 0, slots := 0, locals := 0 } : Room) s m #[(.ref it), (.int lo), (.int hi), (.int (3 : Int32))] below meth c s₁ [] 0 0 := Stand.of_body Bd
  have e0 : s₁.heap = h0 := by rw [← hh, Bd.state]; rfl
  have N0 := Fr.nil n0
  show Goes p e below s (Q_rm13_3 Z it lo hi kd w0 w1 w2 w3 h0 n0) ({ frames := 0, cells := 0, slots := 0, locals := 0 } : Room).cells ({ frames := 0, cells := 0, slots := 0, locals := 0 } : Room).slots (s₁.setTop (entryFrame m #[(.ref it), (.int lo), (.int hi), (.int (3 : Int32))] 4))
  refine Goes.pre (fun t kt => castTop (ef_rm13_3 m it lo hi) kt) ?_
  show Goes p e below s _ _ _ (s₁.setTop (mkF m 0 #[.val (.ref it), .val (.int lo), .val (.int hi), .val (.int (3 : Int32))] []))
  rcases hok with ⟨rfl, rfl⟩ | ⟨rfl, rfl⟩ | ⟨rfl, rfl⟩ | ⟨rfl, rfl⟩ | ⟨rfl, rfl⟩ | ⟨rfl, rfl⟩ | ⟨rfl, rfl⟩ | ⟨rfl, rfl⟩ | ⟨rfl, rfl⟩ | ⟨rfl, rfl⟩ | ⟨rfl, rfl⟩ | ⟨rfl, rfl⟩ | ⟨rfl, rfl⟩ | ⟨rfl, rfl⟩ | ⟨rfl, rfl⟩
  · show Goes p e below s _ _ _ (s₁.setTop (mkF m 0 #[.val (.ref it), .val (.int (0 : Int32)), .val (.int (0 : Int32)), .val (.int (3 : Int32))] []))
    refine Goes.pre (fun t kt => XS.iloadN X0.here hx rfl (hb hby d13_0) rfl kt) ?_
    show Goes p e below s _ _ _ (s₁.setTop (mkF m 1 #[.val (.ref it), .val (.int (0 : Int32)), .val (.int (0 : Int32)), .val (.int (3 : Int32))] [(.int (0 : Int32))]))
    refine Goes.pre (fun t kt => XS.iloadN X0.here hx rfl (hb hby d13_1) rfl kt) ?_
    show Goes p e below s _ _ _ (s₁.setTop (mkF m 2 #[.val (.ref it), .val (.int (0 : Int32)), .val (.int (0 : Int32)), .val (.int (3 : Int32))] [(.int (3 : Int32)), (.int (0 : Int32))]))
    refine Goes.pre (fun t kt => XS.icmpNo X0.here hx rfl (hb hby d13_2) rfl (Jvm.Free.XT.ii_gt_f ((by decide))) kt) ?_
    show Goes p e below s _ _ _ (s₁.setTop (mkF m 5 #[.val (.ref it), .val (.int (0 : Int32)), .val (.int (0 : Int32)), .val (.int (3 : Int32))] []))
    refine Goes.pre (fun t kt => XS.iloadN X0.here hx rfl (hb hby d13_5) rfl kt) ?_
    show Goes p e below s _ _ _ (s₁.setTop (mkF m 6 #[.val (.ref it), .val (.int (0 : Int32)), .val (.int (0 : Int32)), .val (.int (3 : Int32))] [(.int (3 : Int32))]))
    refine Goes.pre (fun t kt => XS.iloadN X0.here hx rfl (hb hby d13_6) rfl kt) ?_
    show Goes p e below s _ _ _ (s₁.setTop (mkF m 7 #[.val (.ref it), .val (.int (0 : Int32)), .val (.int (0 : Int32)), .val (.int (3 : Int32))] [(.int (0 : Int32)), (.int (3 : Int32))]))
    refine Goes.pre (fun t kt => XS.icmpYes X0.here hx rfl (pc0 := 7) (pc' := 20) rfl (hb hby d13_7) rfl (Jvm.Free.XT.ii_ge_t ((by decide))) (by decide) (by decide) kt) ?_
    show Goes p e below s _ _ _ (s₁.setTop (mkF m 20 #[.val (.ref it), .val (.int (0 : Int32)), .val (.int (0 : Int32)), .val (.int (3 : Int32))] []))
    refine Goes.pre (fun t kt => XS.aloadN X0.here hx rfl (hb hby d13_20) rfl rfl kt) ?_
    show Goes p e below s _ _ _ (s₁.setTop (mkF m 21 #[.val (.ref it), .val (.int (0 : Int32)), .val (.int (0 : Int32)), .val (.int (3 : Int32))] [(.ref it)]))
    refine Goes.pre (fun t kt => XS.iloadN X0.here hx rfl (hb hby d13_21) rfl kt) ?_
    show Goes p e below s _ _ _ (s₁.setTop (mkF m 22 #[.val (.ref it), .val (.int (0 : Int32)), .val (.int (0 : Int32)), .val (.int (3 : Int32))] [(.int (3 : Int32)), (.ref it)]))
    obtain ⟨cl1, Ar1, aq1, aS1, aN1, aH1, aG1⟩ := pf_V_it
    have V1 : Arv Z h0 it kd .double (4 : Int32) [(.double w0), (.double w1), (.double w2), (.double w3)] (.double (0 : UInt64)) := ⟨cl1, Ar1, aq1, aS1, aN1, aH1, aG1⟩
    have hin1 : ¬ ((3 : Int32) < 0 ∨ cl1.slots.size ≤ ((3 : Int32)).toNatClampNeg) := inb_of aS1 ⟨by decide, by decide⟩
    have hat1 : cl1.slots[((3 : Int32)).toNatClampNeg]? = some (.double w3) := aH1.at hin1 rfl
    refine Goes.pre (X0.daload hx (j := (3 : Int32)) (v := (.double w3)) (by rw [e0]; exact Ar1.1) (State.isArrayOf_alike hZ.alike Ar1.2.1) Ar1.2.2 hin1 hat1 (g := (mkF m 22 #[.val (.ref it), .val (.int (0 : Int32)), .val (.int (0 : Int32)), .val (.int (3 : Int32))] [(.int (3 : Int32)), (.ref it)])) rfl rfl (hb hby d13_22)) ?_
    show Goes p e below s _ _ _ (s₁.setTop (mkF m 23 #[.val (.ref it), .val (.int (0 : Int32)), .val (.int (0 : Int32)), .val (.int (3 : Int32))] [(.double w3)]))
    refine Goes.ret X0 (some (.double w3)) (fun h => by rw [Bd.returns] at h; cases h) (BodyLoose.notSynchronized Bd) (by decide) (by decide) (fun fs hr => retOut X0 hx (t := .double) Bd.returns rfl (Or.inr (Or.inr (Or.inl ⟨rfl, rfl, _, rfl⟩))) (hb hby d13_23) hr) ?_
    show Q_rm13_3 Z it (0 : Int32) (0 : Int32) kd w0 w1 w2 w3 h0 n0 _ s₁.heap _
    rw [e0]
    exact ⟨(by rw [show own_e (0 : Int32) (0 : Int32) (3 : Int32) w0 w1 w2 w3 = w3 by simp [own_e, own_pick]]), N0, rfl⟩
  · show Goes p e below s _ _ _ (s₁.setTop (mkF m 0 #[.val (.ref it), .val (.int (0 : Int32)), .val (.int (1 : Int32)), .val (.int (3 : Int32))] []))
    refine Goes.pre (fun t kt => XS.iloadN X0.here hx rfl (hb hby d13_0) rfl kt) ?_
    show Goes p e below s _ _ _ (s₁.setTop (mkF m 1 #[.val (.ref it), .val (.int (0 : Int32)), .val (.int (1 : Int32)), .val (.int (3 : Int32))] [(.int (0 : Int32))]))
    refine Goes.pre (fun t kt => XS.iloadN X0.here hx rfl (hb hby d13_1) rfl kt) ?_
    show Goes p e below s _ _ _ (s₁.setTop (mkF m 2 #[.val (.ref it), .val (.int (0 : Int32)), .val (.int (1 : Int32)), .val (.int (3 : Int32))] [(.int (3 : Int32)), (.int (0 : Int32))]))
    refine Goes.pre (fun t kt => XS.icmpNo X0.here hx rfl (hb hby d13_2) rfl (Jvm.Free.XT.ii_gt_f ((by decide))) kt) ?_
    show Goes p e below s _ _ _ (s₁.setTop (mkF m 5 #[.val (.ref it), .val (.int (0 : Int32)), .val (.int (1 : Int32)), .val (.int (3 : Int32))] []))
    refine Goes.pre (fun t kt => XS.iloadN X0.here hx rfl (hb hby d13_5) rfl kt) ?_
    show Goes p e below s _ _ _ (s₁.setTop (mkF m 6 #[.val (.ref it), .val (.int (0 : Int32)), .val (.int (1 : Int32)), .val (.int (3 : Int32))] [(.int (3 : Int32))]))
    refine Goes.pre (fun t kt => XS.iloadN X0.here hx rfl (hb hby d13_6) rfl kt) ?_
    show Goes p e below s _ _ _ (s₁.setTop (mkF m 7 #[.val (.ref it), .val (.int (0 : Int32)), .val (.int (1 : Int32)), .val (.int (3 : Int32))] [(.int (1 : Int32)), (.int (3 : Int32))]))
    refine Goes.pre (fun t kt => XS.icmpYes X0.here hx rfl (pc0 := 7) (pc' := 20) rfl (hb hby d13_7) rfl (Jvm.Free.XT.ii_ge_t ((by decide))) (by decide) (by decide) kt) ?_
    show Goes p e below s _ _ _ (s₁.setTop (mkF m 20 #[.val (.ref it), .val (.int (0 : Int32)), .val (.int (1 : Int32)), .val (.int (3 : Int32))] []))
    refine Goes.pre (fun t kt => XS.aloadN X0.here hx rfl (hb hby d13_20) rfl rfl kt) ?_
    show Goes p e below s _ _ _ (s₁.setTop (mkF m 21 #[.val (.ref it), .val (.int (0 : Int32)), .val (.int (1 : Int32)), .val (.int (3 : Int32))] [(.ref it)]))
    refine Goes.pre (fun t kt => XS.iloadN X0.here hx rfl (hb hby d13_21) rfl kt) ?_
    show Goes p e below s _ _ _ (s₁.setTop (mkF m 22 #[.val (.ref it), .val (.int (0 : Int32)), .val (.int (1 : Int32)), .val (.int (3 : Int32))] [(.int (3 : Int32)), (.ref it)]))
    obtain ⟨cl2, Ar2, aq2, aS2, aN2, aH2, aG2⟩ := pf_V_it
    have V2 : Arv Z h0 it kd .double (4 : Int32) [(.double w0), (.double w1), (.double w2), (.double w3)] (.double (0 : UInt64)) := ⟨cl2, Ar2, aq2, aS2, aN2, aH2, aG2⟩
    have hin2 : ¬ ((3 : Int32) < 0 ∨ cl2.slots.size ≤ ((3 : Int32)).toNatClampNeg) := inb_of aS2 ⟨by decide, by decide⟩
    have hat2 : cl2.slots[((3 : Int32)).toNatClampNeg]? = some (.double w3) := aH2.at hin2 rfl
    refine Goes.pre (X0.daload hx (j := (3 : Int32)) (v := (.double w3)) (by rw [e0]; exact Ar2.1) (State.isArrayOf_alike hZ.alike Ar2.2.1) Ar2.2.2 hin2 hat2 (g := (mkF m 22 #[.val (.ref it), .val (.int (0 : Int32)), .val (.int (1 : Int32)), .val (.int (3 : Int32))] [(.int (3 : Int32)), (.ref it)])) rfl rfl (hb hby d13_22)) ?_
    show Goes p e below s _ _ _ (s₁.setTop (mkF m 23 #[.val (.ref it), .val (.int (0 : Int32)), .val (.int (1 : Int32)), .val (.int (3 : Int32))] [(.double w3)]))
    refine Goes.ret X0 (some (.double w3)) (fun h => by rw [Bd.returns] at h; cases h) (BodyLoose.notSynchronized Bd) (by decide) (by decide) (fun fs hr => retOut X0 hx (t := .double) Bd.returns rfl (Or.inr (Or.inr (Or.inl ⟨rfl, rfl, _, rfl⟩))) (hb hby d13_23) hr) ?_
    show Q_rm13_3 Z it (0 : Int32) (1 : Int32) kd w0 w1 w2 w3 h0 n0 _ s₁.heap _
    rw [e0]
    exact ⟨(by rw [show own_e (0 : Int32) (1 : Int32) (3 : Int32) w0 w1 w2 w3 = w3 by simp [own_e, own_pick]]), N0, rfl⟩
  · show Goes p e below s _ _ _ (s₁.setTop (mkF m 0 #[.val (.ref it), .val (.int (0 : Int32)), .val (.int (2 : Int32)), .val (.int (3 : Int32))] []))
    refine Goes.pre (fun t kt => XS.iloadN X0.here hx rfl (hb hby d13_0) rfl kt) ?_
    show Goes p e below s _ _ _ (s₁.setTop (mkF m 1 #[.val (.ref it), .val (.int (0 : Int32)), .val (.int (2 : Int32)), .val (.int (3 : Int32))] [(.int (0 : Int32))]))
    refine Goes.pre (fun t kt => XS.iloadN X0.here hx rfl (hb hby d13_1) rfl kt) ?_
    show Goes p e below s _ _ _ (s₁.setTop (mkF m 2 #[.val (.ref it), .val (.int (0 : Int32)), .val (.int (2 : Int32)), .val (.int (3 : Int32))] [(.int (3 : Int32)), (.int (0 : Int32))]))
    refine Goes.pre (fun t kt => XS.icmpNo X0.here hx rfl (hb hby d13_2) rfl (Jvm.Free.XT.ii_gt_f ((by decide))) kt) ?_
    show Goes p e below s _ _ _ (s₁.setTop (mkF m 5 #[.val (.ref it), .val (.int (0 : Int32)), .val (.int (2 : Int32)), .val (.int (3 : Int32))] []))
    refine Goes.pre (fun t kt => XS.iloadN X0.here hx rfl (hb hby d13_5) rfl kt) ?_
    show Goes p e below s _ _ _ (s₁.setTop (mkF m 6 #[.val (.ref it), .val (.int (0 : Int32)), .val (.int (2 : Int32)), .val (.int (3 : Int32))] [(.int (3 : Int32))]))
    refine Goes.pre (fun t kt => XS.iloadN X0.here hx rfl (hb hby d13_6) rfl kt) ?_
    show Goes p e below s _ _ _ (s₁.setTop (mkF m 7 #[.val (.ref it), .val (.int (0 : Int32)), .val (.int (2 : Int32)), .val (.int (3 : Int32))] [(.int (2 : Int32)), (.int (3 : Int32))]))
    refine Goes.pre (fun t kt => XS.icmpYes X0.here hx rfl (pc0 := 7) (pc' := 20) rfl (hb hby d13_7) rfl (Jvm.Free.XT.ii_ge_t ((by decide))) (by decide) (by decide) kt) ?_
    show Goes p e below s _ _ _ (s₁.setTop (mkF m 20 #[.val (.ref it), .val (.int (0 : Int32)), .val (.int (2 : Int32)), .val (.int (3 : Int32))] []))
    refine Goes.pre (fun t kt => XS.aloadN X0.here hx rfl (hb hby d13_20) rfl rfl kt) ?_
    show Goes p e below s _ _ _ (s₁.setTop (mkF m 21 #[.val (.ref it), .val (.int (0 : Int32)), .val (.int (2 : Int32)), .val (.int (3 : Int32))] [(.ref it)]))
    refine Goes.pre (fun t kt => XS.iloadN X0.here hx rfl (hb hby d13_21) rfl kt) ?_
    show Goes p e below s _ _ _ (s₁.setTop (mkF m 22 #[.val (.ref it), .val (.int (0 : Int32)), .val (.int (2 : Int32)), .val (.int (3 : Int32))] [(.int (3 : Int32)), (.ref it)]))
    obtain ⟨cl3, Ar3, aq3, aS3, aN3, aH3, aG3⟩ := pf_V_it
    have V3 : Arv Z h0 it kd .double (4 : Int32) [(.double w0), (.double w1), (.double w2), (.double w3)] (.double (0 : UInt64)) := ⟨cl3, Ar3, aq3, aS3, aN3, aH3, aG3⟩
    have hin3 : ¬ ((3 : Int32) < 0 ∨ cl3.slots.size ≤ ((3 : Int32)).toNatClampNeg) := inb_of aS3 ⟨by decide, by decide⟩
    have hat3 : cl3.slots[((3 : Int32)).toNatClampNeg]? = some (.double w3) := aH3.at hin3 rfl
    refine Goes.pre (X0.daload hx (j := (3 : Int32)) (v := (.double w3)) (by rw [e0]; exact Ar3.1) (State.isArrayOf_alike hZ.alike Ar3.2.1) Ar3.2.2 hin3 hat3 (g := (mkF m 22 #[.val (.ref it), .val (.int (0 : Int32)), .val (.int (2 : Int32)), .val (.int (3 : Int32))] [(.int (3 : Int32)), (.ref it)])) rfl rfl (hb hby d13_22)) ?_
    show Goes p e below s _ _ _ (s₁.setTop (mkF m 23 #[.val (.ref it), .val (.int (0 : Int32)), .val (.int (2 : Int32)), .val (.int (3 : Int32))] [(.double w3)]))
    refine Goes.ret X0 (some (.double w3)) (fun h => by rw [Bd.returns] at h; cases h) (BodyLoose.notSynchronized Bd) (by decide) (by decide) (fun fs hr => retOut X0 hx (t := .double) Bd.returns rfl (Or.inr (Or.inr (Or.inl ⟨rfl, rfl, _, rfl⟩))) (hb hby d13_23) hr) ?_
    show Q_rm13_3 Z it (0 : Int32) (2 : Int32) kd w0 w1 w2 w3 h0 n0 _ s₁.heap _
    rw [e0]
    exact ⟨(by rw [show own_e (0 : Int32) (2 : Int32) (3 : Int32) w0 w1 w2 w3 = w3 by simp [own_e, own_pick]]), N0, rfl⟩
  · show Goes p e below s _ _ _ (s₁.setTop (mkF m 0 #[.val (.ref it), .val (.int (0 : Int32)), .val (.int (3 : Int32)), .val (.int (3 : Int32))] []))
    refine Goes.pre (fun t kt => XS.iloadN X0.here hx rfl (hb hby d13_0) rfl kt) ?_
    show Goes p e below s _ _ _ (s₁.setTop (mkF m 1 #[.val (.ref it), .val (.int (0 : Int32)), .val (.int (3 : Int32)), .val (.int (3 : Int32))] [(.int (0 : Int32))]))
    refine Goes.pre (fun t kt => XS.iloadN X0.here hx rfl (hb hby d13_1) rfl kt) ?_
    show Goes p e below s _ _ _ (s₁.setTop (mkF m 2 #[.val (.ref it), .val (.int (0 : Int32)), .val (.int (3 : Int32)), .val (.int (3 : Int32))] [(.int (3 : Int32)), (.int (0 : Int32))]))
    refine Goes.pre (fun t kt => XS.icmpNo X0.here hx rfl (hb hby d13_2) rfl (Jvm.Free.XT.ii_gt_f ((by decide))) kt) ?_
    show Goes p e below s _ _ _ (s₁.setTop (mkF m 5 #[.val (.ref it), .val (.int (0 : Int32)), .val (.int (3 : Int32)), .val (.int (3 : Int32))] []))
    refine Goes.pre (fun t kt => XS.iloadN X0.here hx rfl (hb hby d13_5) rfl kt) ?_
    show Goes p e below s _ _ _ (s₁.setTop (mkF m 6 #[.val (.ref it), .val (.int (0 : Int32)), .val (.int (3 : Int32)), .val (.int (3 : Int32))] [(.int (3 : Int32))]))
    refine Goes.pre (fun t kt => XS.iloadN X0.here hx rfl (hb hby d13_6) rfl kt) ?_
    show Goes p e below s _ _ _ (s₁.setTop (mkF m 7 #[.val (.ref it), .val (.int (0 : Int32)), .val (.int (3 : Int32)), .val (.int (3 : Int32))] [(.int (3 : Int32)), (.int (3 : Int32))]))
    refine Goes.pre (fun t kt => XS.icmpYes X0.here hx rfl (pc0 := 7) (pc' := 20) rfl (hb hby d13_7) rfl (Jvm.Free.XT.ii_ge_t ((by decide))) (by decide) (by decide) kt) ?_
    show Goes p e below s _ _ _ (s₁.setTop (mkF m 20 #[.val (.ref it), .val (.int (0 : Int32)), .val (.int (3 : Int32)), .val (.int (3 : Int32))] []))
    refine Goes.pre (fun t kt => XS.aloadN X0.here hx rfl (hb hby d13_20) rfl rfl kt) ?_
    show Goes p e below s _ _ _ (s₁.setTop (mkF m 21 #[.val (.ref it), .val (.int (0 : Int32)), .val (.int (3 : Int32)), .val (.int (3 : Int32))] [(.ref it)]))
    refine Goes.pre (fun t kt => XS.iloadN X0.here hx rfl (hb hby d13_21) rfl kt) ?_
    show Goes p e below s _ _ _ (s₁.setTop (mkF m 22 #[.val (.ref it), .val (.int (0 : Int32)), .val (.int (3 : Int32)), .val (.int (3 : Int32))] [(.int (3 : Int32)), (.ref it)]))
    obtain ⟨cl4, Ar4, aq4, aS4, aN4, aH4, aG4⟩ := pf_V_it
    have V4 : Arv Z h0 it kd .double (4 : Int32) [(.double w0), (.double w1), (.double w2), (.double w3)] (.double (0 : UInt64)) := ⟨cl4, Ar4, aq4, aS4, aN4, aH4, aG4⟩
    have hin4 : ¬ ((3 : Int32) < 0 ∨ cl4.slots.size ≤ ((3 : Int32)).toNatClampNeg) := inb_of aS4 ⟨by decide, by decide⟩
    have hat4 : cl4.slots[((3 : Int32)).toNatClampNeg]? = some (.double w3) := aH4.at hin4 rfl
    refine Goes.pre (X0.daload hx (j := (3 : Int32)) (v := (.double w3)) (by rw [e0]; exact Ar4.1) (State.isArrayOf_alike hZ.alike Ar4.2.1) Ar4.2.2 hin4 hat4 (g := (mkF m 22 #[.val (.ref it), .val (.int (0 : Int32)), .val (.int (3 : Int32)), .val (.int (3 : Int32))] [(.int (3 : Int32)), (.ref it)])) rfl rfl (hb hby d13_22)) ?_
    show Goes p e below s _ _ _ (s₁.setTop (mkF m 23 #[.val (.ref it), .val (.int (0 : Int32)), .val (.int (3 : Int32)), .val (.int (3 : Int32))] [(.double w3)]))
    refine Goes.ret X0 (some (.double w3)) (fun h => by rw [Bd.returns] at h; cases h) (BodyLoose.notSynchronized Bd) (by decide) (by decide) (fun fs hr => retOut X0 hx (t := .double) Bd.returns rfl (Or.inr (Or.inr (Or.inl ⟨rfl, rfl, _, rfl⟩))) (hb hby d13_23) hr) ?_
    show Q_rm13_3 Z it (0 : Int32) (3 : Int32) kd w0 w1 w2 w3 h0 n0 _ s₁.heap _
    rw [e0]
    exact ⟨(by rw [show own_e (0 : Int32) (3 : Int32) (3 : Int32) w0 w1 w2 w3 = w3 by simp [own_e, own_pick]]), N0, rfl⟩
  · show Goes p e below s _ _ _ (s₁.setTop (mkF m 0 #[.val (.ref it), .val (.int (0 : Int32)), .val (.int (4 : Int32)), .val (.int (3 : Int32))] []))
    refine Goes.pre (fun t kt => XS.iloadN X0.here hx rfl (hb hby d13_0) rfl kt) ?_
    show Goes p e below s _ _ _ (s₁.setTop (mkF m 1 #[.val (.ref it), .val (.int (0 : Int32)), .val (.int (4 : Int32)), .val (.int (3 : Int32))] [(.int (0 : Int32))]))
    refine Goes.pre (fun t kt => XS.iloadN X0.here hx rfl (hb hby d13_1) rfl kt) ?_
    show Goes p e below s _ _ _ (s₁.setTop (mkF m 2 #[.val (.ref it), .val (.int (0 : Int32)), .val (.int (4 : Int32)), .val (.int (3 : Int32))] [(.int (3 : Int32)), (.int (0 : Int32))]))
    refine Goes.pre (fun t kt => XS.icmpNo X0.here hx rfl (hb hby d13_2) rfl (Jvm.Free.XT.ii_gt_f ((by decide))) kt) ?_
    show Goes p e below s _ _ _ (s₁.setTop (mkF m 5 #[.val (.ref it), .val (.int (0 : Int32)), .val (.int (4 : Int32)), .val (.int (3 : Int32))] []))
    refine Goes.pre (fun t kt => XS.iloadN X0.here hx rfl (hb hby d13_5) rfl kt) ?_
    show Goes p e below s _ _ _ (s₁.setTop (mkF m 6 #[.val (.ref it), .val (.int (0 : Int32)), .val (.int (4 : Int32)), .val (.int (3 : Int32))] [(.int (3 : Int32))]))
    refine Goes.pre (fun t kt => XS.iloadN X0.here hx rfl (hb hby d13_6) rfl kt) ?_
    show Goes p e below s _ _ _ (s₁.setTop (mkF m 7 #[.val (.ref it), .val (.int (0 : Int32)), .val (.int (4 : Int32)), .val (.int (3 : Int32))] [(.int (4 : Int32)), (.int (3 : Int32))]))
    refine Goes.pre (fun t kt => XS.icmpNo X0.here hx rfl (hb hby d13_7) rfl (Jvm.Free.XT.ii_ge_f ((by decide))) kt) ?_
    show Goes p e below s _ _ _ (s₁.setTop (mkF m 10 #[.val (.ref it), .val (.int (0 : Int32)), .val (.int (4 : Int32)), .val (.int (3 : Int32))] []))
    refine Goes.pre (fun t kt => XS.aloadN X0.here hx rfl (hb hby d13_10) rfl rfl kt) ?_
    show Goes p e below s _ _ _ (s₁.setTop (mkF m 11 #[.val (.ref it), .val (.int (0 : Int32)), .val (.int (4 : Int32)), .val (.int (3 : Int32))] [(.ref it)]))
    refine Goes.pre (fun t kt => XS.iloadN X0.here hx rfl (hb hby d13_11) rfl kt) ?_
    show Goes p e below s _ _ _ (s₁.setTop (mkF m 12 #[.val (.ref it), .val (.int (0 : Int32)), .val (.int (4 : Int32)), .val (.int (3 : Int32))] [(.int (0 : Int32)), (.ref it)]))
    refine Goes.pre (fun t kt => XS.iloadN X0.here hx rfl (hb hby d13_12) rfl kt) ?_
    show Goes p e below s _ _ _ (s₁.setTop (mkF m 13 #[.val (.ref it), .val (.int (0 : Int32)), .val (.int (4 : Int32)), .val (.int (3 : Int32))] [(.int (4 : Int32)), (.int (0 : Int32)), (.ref it)]))
    refine Goes.pre (fun t kt => XS.iadd X0.here hx rfl (hb hby d13_13) rfl kt) ?_
    show Goes p e below s _ _ _ (s₁.setTop (mkF m 14 #[.val (.ref it), .val (.int (0 : Int32)), .val (.int (4 : Int32)), .val (.int (3 : Int32))] [(.int (4 : Int32)), (.ref it)]))
    refine Goes.pre (fun t kt => XS.iconst X0.here hx rfl (hb hby d13_14) kt) ?_
    show Goes p e below s _ _ _ (s₁.setTop (mkF m 15 #[.val (.ref it), .val (.int (0 : Int32)), .val (.int (4 : Int32)), .val (.int (3 : Int32))] [(.int (1 : Int32)), (.int (4 : Int32)), (.ref it)]))
    refine Goes.pre (fun t kt => XS.isub X0.here hx rfl (hb hby d13_15) rfl kt) ?_
    show Goes p e below s _ _ _ (s₁.setTop (mkF m 16 #[.val (.ref it), .val (.int (0 : Int32)), .val (.int (4 : Int32)), .val (.int (3 : Int32))] [(.int (3 : Int32)), (.ref it)]))
    refine Goes.pre (fun t kt => XS.iloadN X0.here hx rfl (hb hby d13_16) rfl kt) ?_
    show Goes p e below s _ _ _ (s₁.setTop (mkF m 17 #[.val (.ref it), .val (.int (0 : Int32)), .val (.int (4 : Int32)), .val (.int (3 : Int32))] [(.int (3 : Int32)), (.int (3 : Int32)), (.ref it)]))
    refine Goes.pre (fun t kt => XS.isub X0.here hx rfl (hb hby d13_17) rfl kt) ?_
    show Goes p e below s _ _ _ (s₁.setTop (mkF m 18 #[.val (.ref it), .val (.int (0 : Int32)), .val (.int (4 : Int32)), .val (.int (3 : Int32))] [(.int (0 : Int32)), (.ref it)]))
    obtain ⟨cl5, Ar5, aq5, aS5, aN5, aH5, aG5⟩ := pf_V_it
    have V5 : Arv Z h0 it kd .double (4 : Int32) [(.double w0), (.double w1), (.double w2), (.double w3)] (.double (0 : UInt64)) := ⟨cl5, Ar5, aq5, aS5, aN5, aH5, aG5⟩
    have hin5 : ¬ ((0 : Int32) < 0 ∨ cl5.slots.size ≤ ((0 : Int32)).toNatClampNeg) := inb_of aS5 ⟨by decide, by decide⟩
    have hat5 : cl5.slots[((0 : Int32)).toNatClampNeg]? = some (.double w0) := aH5.at hin5 rfl
    refine Goes.pre (X0.daload hx (j := (0 : Int32)) (v := (.double w0)) (by rw [e0]; exact Ar5.1) (State.isArrayOf_alike hZ.alike Ar5.2.1) Ar5.2.2 hin5 hat5 (g := (mkF m 18 #[.val (.ref it), .val (.int (0 : Int32)), .val (.int (4 : Int32)), .val (.int (3 : Int32))] [(.int (0 : Int32)), (.ref it)])) rfl rfl (hb hby d13_18)) ?_
    show Goes p e below s _ _ _ (s₁.setTop (mkF m 19 #[.val (.ref it), .val (.int (0 : Int32)), .val (.int (4 : Int32)), .val (.int (3 : Int32))] [(.double w0)]))
    refine Goes.ret X0 (some (.double w0)) (fun h => by rw [Bd.returns] at h; cases h) (BodyLoose.notSynchronized Bd) (by decide) (by decide) (fun fs hr => retOut X0 hx (t := .double) Bd.returns rfl (Or.inr (Or.inr (Or.inl ⟨rfl, rfl, _, rfl⟩))) (hb hby d13_19) hr) ?_
    show Q_rm13_3 Z it (0 : Int32) (4 : Int32) kd w0 w1 w2 w3 h0 n0 _ s₁.heap _
    rw [e0]
    exact ⟨(by rw [show own_e (0 : Int32) (4 : Int32) (3 : Int32) w0 w1 w2 w3 = w0 by simp [own_e, own_pick]]), N0, rfl⟩
  · show Goes p e below s _ _ _ (s₁.setTop (mkF m 0 #[.val (.ref it), .val (.int (1 : Int32)), .val (.int (1 : Int32)), .val (.int (3 : Int32))] []))
    refine Goes.pre (fun t kt => XS.iloadN X0.here hx rfl (hb hby d13_0) rfl kt) ?_
    show Goes p e below s _ _ _ (s₁.setTop (mkF m 1 #[.val (.ref it), .val (.int (1 : Int32)), .val (.int (1 : Int32)), .val (.int (3 : Int32))] [(.int (1 : Int32))]))
    refine Goes.pre (fun t kt => XS.iloadN X0.here hx rfl (hb hby d13_1) rfl kt) ?_
    show Goes p e below s _ _ _ (s₁.setTop (mkF m 2 #[.val (.ref it), .val (.int (1 : Int32)), .val (.int (1 : Int32)), .val (.int (3 : Int32))] [(.int (3 : Int32)), (.int (1 : Int32))]))
    refine Goes.pre (fun t kt => XS.icmpNo X0.here hx rfl (hb hby d13_2) rfl (Jvm.Free.XT.ii_gt_f ((by decide))) kt) ?_
    show Goes p e below s _ _ _ (s₁.setTop (mkF m 5 #[.val (.ref it), .val (.int (1 : Int32)), .val (.int (1 : Int32)), .val (.int (3 : Int32))] []))
    refine Goes.pre (fun t kt => XS.iloadN X0.here hx rfl (hb hby d13_5) rfl kt) ?_
    show Goes p e below s _ _ _ (s₁.setTop (mkF m 6 #[.val (.ref it), .val (.int (1 : Int32)), .val (.int (1 : Int32)), .val (.int (3 : Int32))] [(.int (3 : Int32))]))
    refine Goes.pre (fun t kt => XS.iloadN X0.here hx rfl (hb hby d13_6) rfl kt) ?_
    show Goes p e below s _ _ _ (s₁.setTop (mkF m 7 #[.val (.ref it), .val (.int (1 : Int32)), .val (.int (1 : Int32)), .val (.int (3 : Int32))] [(.int (1 : Int32)), (.int (3 : Int32))]))
    refine Goes.pre (fun t kt => XS.icmpYes X0.here hx rfl (pc0 := 7) (pc' := 20) rfl (hb hby d13_7) rfl (Jvm.Free.XT.ii_ge_t ((by decide))) (by decide) (by decide) kt) ?_
    show Goes p e below s _ _ _ (s₁.setTop (mkF m 20 #[.val (.ref it), .val (.int (1 : Int32)), .val (.int (1 : Int32)), .val (.int (3 : Int32))] []))
    refine Goes.pre (fun t kt => XS.aloadN X0.here hx rfl (hb hby d13_20) rfl rfl kt) ?_
    show Goes p e below s _ _ _ (s₁.setTop (mkF m 21 #[.val (.ref it), .val (.int (1 : Int32)), .val (.int (1 : Int32)), .val (.int (3 : Int32))] [(.ref it)]))
    refine Goes.pre (fun t kt => XS.iloadN X0.here hx rfl (hb hby d13_21) rfl kt) ?_
    show Goes p e below s _ _ _ (s₁.setTop (mkF m 22 #[.val (.ref it), .val (.int (1 : Int32)), .val (.int (1 : Int32)), .val (.int (3 : Int32))] [(.int (3 : Int32)), (.ref it)]))
    obtain ⟨cl6, Ar6, aq6, aS6, aN6, aH6, aG6⟩ := pf_V_it
    have V6 : Arv Z h0 it kd .double (4 : Int32) [(.double w0), (.double w1), (.double w2), (.double w3)] (.double (0 : UInt64)) := ⟨cl6, Ar6, aq6, aS6, aN6, aH6, aG6⟩
    have hin6 : ¬ ((3 : Int32) < 0 ∨ cl6.slots.size ≤ ((3 : Int32)).toNatClampNeg) := inb_of aS6 ⟨by decide, by decide⟩
    have hat6 : cl6.slots[((3 : Int32)).toNatClampNeg]? = some (.double w3) := aH6.at hin6 rfl
    refine Goes.pre (X0.daload hx (j := (3 : Int32)) (v := (.double w3)) (by rw [e0]; exact Ar6.1) (State.isArrayOf_alike hZ.alike Ar6.2.1) Ar6.2.2 hin6 hat6 (g := (mkF m 22 #[.val (.ref it), .val (.int (1 : Int32)), .val (.int (1 : Int32)), .val (.int (3 : Int32))] [(.int (3 : Int32)), (.ref it)])) rfl rfl (hb hby d13_22)) ?_
    show Goes p e below s _ _ _ (s₁.setTop (mkF m 23 #[.val (.ref it), .val (.int (1 : Int32)), .val (.int (1 : Int32)), .val (.int (3 : Int32))] [(.double w3)]))
    refine Goes.ret X0 (some (.double w3)) (fun h => by rw [Bd.returns] at h; cases h) (BodyLoose.notSynchronized Bd) (by decide) (by decide) (fun fs hr => retOut X0 hx (t := .double) Bd.returns rfl (Or.inr (Or.inr (Or.inl ⟨rfl, rfl, _, rfl⟩))) (hb hby d13_23) hr) ?_
    show Q_rm13_3 Z it (1 : Int32) (1 : Int32) kd w0 w1 w2 w3 h0 n0 _ s₁.heap _
    rw [e0]
    exact ⟨(by rw [show own_e (1 : Int32) (1 : Int32) (3 : Int32) w0 w1 w2 w3 = w3 by simp [own_e, own_pick]]), N0, rfl⟩
  · show Goes p e below s _ _ _ (s₁.setTop (mkF m 0 #[.val (.ref it), .val (.int (1 : Int32)), .val (.int (2 : Int32)), .val (.int (3 : Int32))] []))
    refine Goes.pre (fun t kt => XS.iloadN X0.here hx rfl (hb hby d13_0) rfl kt) ?_
    show Goes p e below s _ _ _ (s₁.setTop (mkF m 1 #[.val (.ref it), .val (.int (1 : Int32)), .val (.int (2 : Int32)), .val (.int (3 : Int32))] [(.int (1 : Int32))]))
    refine Goes.pre (fun t kt => XS.iloadN X0.here hx rfl (hb hby d13_1) rfl kt) ?_
    show Goes p e below s _ _ _ (s₁.setTop (mkF m 2 #[.val (.ref it), .val (.int (1 : Int32)), .val (.int (2 : Int32)), .val (.int (3 : Int32))] [(.int (3 : Int32)), (.int (1 : Int32))]))
    refine Goes.pre (fun t kt => XS.icmpNo X0.here hx rfl (hb hby d13_2) rfl (Jvm.Free.XT.ii_gt_f ((by decide))) kt) ?_
    show Goes p e below s _ _ _ (s₁.setTop (mkF m 5 #[.val (.ref it), .val (.int (1 : Int32)), .val (.int (2 : Int32)), .val (.int (3 : Int32))] []))
    refine Goes.pre (fun t kt => XS.iloadN X0.here hx rfl (hb hby d13_5) rfl kt) ?_
    show Goes p e below s _ _ _ (s₁.setTop (mkF m 6 #[.val (.ref it), .val (.int (1 : Int32)), .val (.int (2 : Int32)), .val (.int (3 : Int32))] [(.int (3 : Int32))]))
    refine Goes.pre (fun t kt => XS.iloadN X0.here hx rfl (hb hby d13_6) rfl kt) ?_
    show Goes p e below s _ _ _ (s₁.setTop (mkF m 7 #[.val (.ref it), .val (.int (1 : Int32)), .val (.int (2 : Int32)), .val (.int (3 : Int32))] [(.int (2 : Int32)), (.int (3 : Int32))]))
    refine Goes.pre (fun t kt => XS.icmpYes X0.here hx rfl (pc0 := 7) (pc' := 20) rfl (hb hby d13_7) rfl (Jvm.Free.XT.ii_ge_t ((by decide))) (by decide) (by decide) kt) ?_
    show Goes p e below s _ _ _ (s₁.setTop (mkF m 20 #[.val (.ref it), .val (.int (1 : Int32)), .val (.int (2 : Int32)), .val (.int (3 : Int32))] []))
    refine Goes.pre (fun t kt => XS.aloadN X0.here hx rfl (hb hby d13_20) rfl rfl kt) ?_
    show Goes p e below s _ _ _ (s₁.setTop (mkF m 21 #[.val (.ref it), .val (.int (1 : Int32)), .val (.int (2 : Int32)), .val (.int (3 : Int32))] [(.ref it)]))
    refine Goes.pre (fun t kt => XS.iloadN X0.here hx rfl (hb hby d13_21) rfl kt) ?_
    show Goes p e below s _ _ _ (s₁.setTop (mkF m 22 #[.val (.ref it), .val (.int (1 : Int32)), .val (.int (2 : Int32)), .val (.int (3 : Int32))] [(.int (3 : Int32)), (.ref it)]))
    obtain ⟨cl7, Ar7, aq7, aS7, aN7, aH7, aG7⟩ := pf_V_it
    have V7 : Arv Z h0 it kd .double (4 : Int32) [(.double w0), (.double w1), (.double w2), (.double w3)] (.double (0 : UInt64)) := ⟨cl7, Ar7, aq7, aS7, aN7, aH7, aG7⟩
    have hin7 : ¬ ((3 : Int32) < 0 ∨ cl7.slots.size ≤ ((3 : Int32)).toNatClampNeg) := inb_of aS7 ⟨by decide, by decide⟩
    have hat7 : cl7.slots[((3 : Int32)).toNatClampNeg]? = some (.double w3) := aH7.at hin7 rfl
    refine Goes.pre (X0.daload hx (j := (3 : Int32)) (v := (.double w3)) (by rw [e0]; exact Ar7.1) (State.isArrayOf_alike hZ.alike Ar7.2.1) Ar7.2.2 hin7 hat7 (g := (mkF m 22 #[.val (.ref it), .val (.int (1 : Int32)), .val (.int (2 : Int32)), .val (.int (3 : Int32))] [(.int (3 : Int32)), (.ref it)])) rfl rfl (hb hby d13_22)) ?_
    show Goes p e below s _ _ _ (s₁.setTop (mkF m 23 #[.val (.ref it), .val (.int (1 : Int32)), .val (.int (2 : Int32)), .val (.int (3 : Int32))] [(.double w3)]))
    refine Goes.ret X0 (some (.double w3)) (fun h => by rw [Bd.returns] at h; cases h) (BodyLoose.notSynchronized Bd) (by decide) (by decide) (fun fs hr => retOut X0 hx (t := .double) Bd.returns rfl (Or.inr (Or.inr (Or.inl ⟨rfl, rfl, _, rfl⟩))) (hb hby d13_23) hr) ?_
    show Q_rm13_3 Z it (1 : Int32) (2 : Int32) kd w0 w1 w2 w3 h0 n0 _ s₁.heap _
    rw [e0]
    exact ⟨(by rw [show own_e (1 : Int32) (2 : Int32) (3 : Int32) w0 w1 w2 w3 = w3 by simp [own_e, own_pick]]), N0, rfl⟩
  · show Goes p e below s _ _ _ (s₁.setTop (mkF m 0 #[.val (.ref it), .val (.int (1 : Int32)), .val (.int (3 : Int32)), .val (.int (3 : Int32))] []))
    refine Goes.pre (fun t kt => XS.iloadN X0.here hx rfl (hb hby d13_0) rfl kt) ?_
    show Goes p e below s _ _ _ (s₁.setTop (mkF m 1 #[.val (.ref it), .val (.int (1 : Int32)), .val (.int (3 : Int32)), .val (.int (3 : Int32))] [(.int (1 : Int32))]))
    refine Goes.pre (fun t kt => XS.iloadN X0.here hx rfl (hb hby d13_1) rfl kt) ?_
    show Goes p e below s _ _ _ (s₁.setTop (mkF m 2 #[.val (.ref it), .val (.int (1 : Int32)), .val (.int (3 : Int32)), .val (.int (3 : Int32))] [(.int (3 : Int32)), (.int (1 : Int32))]))
    refine Goes.pre (fun t kt => XS.icmpNo X0.here hx rfl (hb hby d13_2) rfl (Jvm.Free.XT.ii_gt_f ((by decide))) kt) ?_
    show Goes p e below s _ _ _ (s₁.setTop (mkF m 5 #[.val (.ref it), .val (.int (1 : Int32)), .val (.int (3 : Int32)), .val (.int (3 : Int32))] []))
    refine Goes.pre (fun t kt => XS.iloadN X0.here hx rfl (hb hby d13_5) rfl kt) ?_
    show Goes p e below s _ _ _ (s₁.setTop (mkF m 6 #[.val (.ref it), .val (.int (1 : Int32)), .val (.int (3 : Int32)), .val (.int (3 : Int32))] [(.int (3 : Int32))]))
    refine Goes.pre (fun t kt => XS.iloadN X0.here hx rfl (hb hby d13_6) rfl kt) ?_
    show Goes p e below s _ _ _ (s₁.setTop (mkF m 7 #[.val (.ref it), .val (.int (1 : Int32)), .val (.int (3 : Int32)), .val (.int (3 : Int32))] [(.int (3 : Int32)), (.int (3 : Int32))]))
    refine Goes.pre (fun t kt => XS.icmpYes X0.here hx rfl (pc0 := 7) (pc' := 20) rfl (hb hby d13_7) rfl (Jvm.Free.XT.ii_ge_t ((by decide))) (by decide) (by decide) kt) ?_
    show Goes p e below s _ _ _ (s₁.setTop (mkF m 20 #[.val (.ref it), .val (.int (1 : Int32)), .val (.int (3 : Int32)), .val (.int (3 : Int32))] []))
    refine Goes.pre (fun t kt => XS.aloadN X0.here hx rfl (hb hby d13_20) rfl rfl kt) ?_
    show Goes p e below s _ _ _ (s₁.setTop (mkF m 21 #[.val (.ref it), .val (.int (1 : Int32)), .val (.int (3 : Int32)), .val (.int (3 : Int32))] [(.ref it)]))
    refine Goes.pre (fun t kt => XS.iloadN X0.here hx rfl (hb hby d13_21) rfl kt) ?_
    show Goes p e below s _ _ _ (s₁.setTop (mkF m 22 #[.val (.ref it), .val (.int (1 : Int32)), .val (.int (3 : Int32)), .val (.int (3 : Int32))] [(.int (3 : Int32)), (.ref it)]))
    obtain ⟨cl8, Ar8, aq8, aS8, aN8, aH8, aG8⟩ := pf_V_it
    have V8 : Arv Z h0 it kd .double (4 : Int32) [(.double w0), (.double w1), (.double w2), (.double w3)] (.double (0 : UInt64)) := ⟨cl8, Ar8, aq8, aS8, aN8, aH8, aG8⟩
    have hin8 : ¬ ((3 : Int32) < 0 ∨ cl8.slots.size ≤ ((3 : Int32)).toNatClampNeg) := inb_of aS8 ⟨by decide, by decide⟩
    have hat8 : cl8.slots[((3 : Int32)).toNatClampNeg]? = some (.double w3) := aH8.at hin8 rfl
    refine Goes.pre (X0.daload hx (j := (3 : Int32)) (v := (.double w3)) (by rw [e0]; exact Ar8.1) (State.isArrayOf_alike hZ.alike Ar8.2.1) Ar8.2.2 hin8 hat8 (g := (mkF m 22 #[.val (.ref it), .val (.int (1 : Int32)), .val (.int (3 : Int32)), .val (.int (3 : Int32))] [(.int (3 : Int32)), (.ref it)])) rfl rfl (hb hby d13_22)) ?_
    show Goes p e below s _ _ _ (s₁.setTop (mkF m 23 #[.val (.ref it), .val (.int (1 : Int32)), .val (.int (3 : Int32)), .val (.int (3 : Int32))] [(.double w3)]))
    refine Goes.ret X0 (some (.double w3)) (fun h => by rw [Bd.returns] at h; cases h) (BodyLoose.notSynchronized Bd) (by decide) (by decide) (fun fs hr => retOut X0 hx (t := .double) Bd.returns rfl (Or.inr (Or.inr (Or.inl ⟨rfl, rfl, _, rfl⟩))) (hb hby d13_23) hr) ?_
    show Q_rm13_3 Z it (1 : Int32) (3 : Int32) kd w0 w1 w2 w3 h0 n0 _ s₁.heap _
    rw [e0]
    exact ⟨(by rw [show own_e (1 : Int32) (3 : Int32) (3 : Int32) w0 w1 w2 w3 = w3 by simp [own_e, own_pick]]), N0, rfl⟩
  · show Goes p e below s _ _ _ (s₁.setTop (mkF m 0 #[.val (.ref it), .val (.int (1 : Int32)), .val (.int (4 : Int32)), .val (.int (3 : Int32))] []))
    refine Goes.pre (fun t kt => XS.iloadN X0.here hx rfl (hb hby d13_0) rfl kt) ?_
    show Goes p e below s _ _ _ (s₁.setTop (mkF m 1 #[.val (.ref it), .val (.int (1 : Int32)), .val (.int (4 : Int32)), .val (.int (3 : Int32))] [(.int (1 : Int32))]))
    refine Goes.pre (fun t kt => XS.iloadN X0.here hx rfl (hb hby d13_1) rfl kt) ?_
    show Goes p e below s _ _ _ (s₁.setTop (mkF m 2 #[.val (.ref it), .val (.int (1 : Int32)), .val (.int (4 : Int32)), .val (.int (3 : Int32))] [(.int (3 : Int32)), (.int (1 : Int32))]))
    refine Goes.pre (fun t kt => XS.icmpNo X0.here hx rfl (hb hby d13_2) rfl (Jvm.Free.XT.ii_gt_f ((by decide))) kt) ?_
    show Goes p e below s _ _ _ (s₁.setTop (mkF m 5 #[.val (.ref it), .val (.int (1 : Int32)), .val (.int (4 : Int32)), .val (.int (3 : Int32))] []))
    refine Goes.pre (fun t kt => XS.iloadN X0.here hx rfl (hb hby d13_5) rfl kt) ?_
    show Goes p e below s _ _ _ (s₁.setTop (mkF m 6 #[.val (.ref it), .val (.int (1 : Int32)), .val (.int (4 : Int32)), .val (.int (3 : Int32))] [(.int (3 : Int32))]))
    refine Goes.pre (fun t kt => XS.iloadN X0.here hx rfl (hb hby d13_6) rfl kt) ?_
    show Goes p e below s _ _ _ (s₁.setTop (mkF m 7 #[.val (.ref it), .val (.int (1 : Int32)), .val (.int (4 : Int32)), .val (.int (3 : Int32))] [(.int (4 : Int32)), (.int (3 : Int32))]))
    refine Goes.pre (fun t kt => XS.icmpNo X0.here hx rfl (hb hby d13_7) rfl (Jvm.Free.XT.ii_ge_f ((by decide))) kt) ?_
    show Goes p e below s _ _ _ (s₁.setTop (mkF m 10 #[.val (.ref it), .val (.int (1 : Int32)), .val (.int (4 : Int32)), .val (.int (3 : Int32))] []))
    refine Goes.pre (fun t kt => XS.aloadN X0.here hx rfl (hb hby d13_10) rfl rfl kt) ?_
    show Goes p e below s _ _ _ (s₁.setTop (mkF m 11 #[.val (.ref it), .val (.int (1 : Int32)), .val (.int (4 : Int32)), .val (.int (3 : Int32))] [(.ref it)]))
    refine Goes.pre (fun t kt => XS.iloadN X0.here hx rfl (hb hby d13_11) rfl kt) ?_
    show Goes p e below s _ _ _ (s₁.setTop (mkF m 12 #[.val (.ref it), .val (.int (1 : Int32)), .val (.int (4 : Int32)), .val (.int (3 : Int32))] [(.int (1 : Int32)), (.ref it)]))
    refine Goes.pre (fun t kt => XS.iloadN X0.here hx rfl (hb hby d13_12) rfl kt) ?_
    show Goes p e below s _ _ _ (s₁.setTop (mkF m 13 #[.val (.ref it), .val (.int (1 : Int32)), .val (.int (4 : Int32)), .val (.int (3 : Int32))] [(.int (4 : Int32)), (.int (1 : Int32)), (.ref it)]))
    refine Goes.pre (fun t kt => XS.iadd X0.here hx rfl (hb hby d13_13) rfl kt) ?_
    show Goes p e below s _ _ _ (s₁.setTop (mkF m 14 #[.val (.ref it), .val (.int (1 : Int32)), .val (.int (4 : Int32)), .val (.int (3 : Int32))] [(.int (5 : Int32)), (.ref it)]))
    refine Goes.pre (fun t kt => XS.iconst X0.here hx rfl (hb hby d13_14) kt) ?_
    show Goes p e below s _ _ _ (s₁.setTop (mkF m 15 #[.val (.ref it), .val (.int (1 : Int32)), .val (.int (4 : Int32)), .val (.int (3 : Int32))] [(.int (1 : Int32)), (.int (5 : Int32)), (.ref it)]))
    refine Goes.pre (fun t kt => XS.isub X0.here hx rfl (hb hby d13_15) rfl kt) ?_
    show Goes p e below s _ _ _ (s₁.setTop (mkF m 16 #[.val (.ref it), .val (.int (1 : Int32)), .val (.int (4 : Int32)), .val (.int (3 : Int32))] [(.int (4 : Int32)), (.ref it)]))
    refine Goes.pre (fun t kt => XS.iloadN X0.here hx rfl (hb hby d13_16) rfl kt) ?_
    show Goes p e below s _ _ _ (s₁.setTop (mkF m 17 #[.val (.ref it), .val (.int (1 : Int32)), .val (.int (4 : Int32)), .val (.int (3 : Int32))] [(.int (3 : Int32)), (.int (4 : Int32)), (.ref it)]))
    refine Goes.pre (fun t kt => XS.isub X0.here hx rfl (hb hby d13_17) rfl kt) ?_
    show Goes p e below s _ _ _ (s₁.setTop (mkF m 18 #[.val (.ref it), .val (.int (1 : Int32)), .val (.int (4 : Int32)), .val (.int (3 : Int32))] [(.int (1 : Int32)), (.ref it)]))
    obtain ⟨cl9, Ar9, aq9, aS9, aN9, aH9, aG9⟩ := pf_V_it
    have V9 : Arv Z h0 it kd .double (4 : Int32) [(.double w0), (.double w1), (.double w2), (.double w3)] (.double (0 : UInt64)) := ⟨cl9, Ar9, aq9, aS9, aN9, aH9, aG9⟩
    have hin9 : ¬ ((1 : Int32) < 0 ∨ cl9.slots.size ≤ ((1 : Int32)).toNatClampNeg) := inb_of aS9 ⟨by decide, by decide⟩
    have hat9 : cl9.slots[((1 : Int32)).toNatClampNeg]? = some (.double w1) := aH9.at hin9 rfl
    refine Goes.pre (X0.daload hx (j := (1 : Int32)) (v := (.double w1)) (by rw [e0]; exact Ar9.1) (State.isArrayOf_alike hZ.alike Ar9.2.1) Ar9.2.2 hin9 hat9 (g := (mkF m 18 #[.val (.ref it), .val (.int (1 : Int32)), .val (.int (4 : Int32)), .val (.int (3 : Int32))] [(.int (1 : Int32)), (.ref it)])) rfl rfl (hb hby d13_18)) ?_
    show Goes p e below s _ _ _ (s₁.setTop (mkF m 19 #[.val (.ref it), .val (.int (1 : Int32)), .val (.int (4 : Int32)), .val (.int (3 : Int32))] [(.double w1)]))
    refine Goes.ret X0 (some (.double w1)) (fun h => by rw [Bd.returns] at h; cases h) (BodyLoose.notSynchronized Bd) (by decide) (by decide) (fun fs hr => retOut X0 hx (t := .double) Bd.returns rfl (Or.inr (Or.inr (Or.inl ⟨rfl, rfl, _, rfl⟩))) (hb hby d13_19) hr) ?_
    show Q_rm13_3 Z it (1 : Int32) (4 : Int32) kd w0 w1 w2 w3 h0 n0 _ s₁.heap _
    rw [e0]
    exact ⟨(by rw [show own_e (1 : Int32) (4 : Int32) (3 : Int32) w0 w1 w2 w3 = w1 by simp [own_e, own_pick]]), N0, rfl⟩
  · show Goes p e below s _ _ _ (s₁.setTop (mkF m 0 #[.val (.ref it), .val (.int (2 : Int32)), .val (.int (2 : Int32)), .val (.int (3 : Int32))] []))
    refine Goes.pre (fun t kt => XS.iloadN X0.here hx rfl (hb hby d13_0) rfl kt) ?_
    show Goes p e below s _ _ _ (s₁.setTop (mkF m 1 #[.val (.ref it), .val (.int (2 : Int32)), .val (.int (2 : Int32)), .val (.int (3 : Int32))] [(.int (2 : Int32))]))
    refine Goes.pre (fun t kt => XS.iloadN X0.here hx rfl (hb hby d13_1) rfl kt) ?_
    show Goes p e below s _ _ _ (s₁.setTop (mkF m 2 #[.val (.ref it), .val (.int (2 : Int32)), .val (.int (2 : Int32)), .val (.int (3 : Int32))] [(.int (3 : Int32)), (.int (2 : Int32))]))
    refine Goes.pre (fun t kt => XS.icmpNo X0.here hx rfl (hb hby d13_2) rfl (Jvm.Free.XT.ii_gt_f ((by decide))) kt) ?_
    show Goes p e below s _ _ _ (s₁.setTop (mkF m 5 #[.val (.ref it), .val (.int (2 : Int32)), .val (.int (2 : Int32)), .val (.int (3 : Int32))] []))
    refine Goes.pre (fun t kt => XS.iloadN X0.here hx rfl (hb hby d13_5) rfl kt) ?_
    show Goes p e below s _ _ _ (s₁.setTop (mkF m 6 #[.val (.ref it), .val (.int (2 : Int32)), .val (.int (2 : Int32)), .val (.int (3 : Int32))] [(.int (3 : Int32))]))
    refine Goes.pre (fun t kt => XS.iloadN X0.here hx rfl (hb hby d13_6) rfl kt) ?_
    show Goes p e below s _ _ _ (s₁.setTop (mkF m 7 #[.val (.ref it), .val (.int (2 : Int32)), .val (.int (2 : Int32)), .val (.int (3 : Int32))] [(.int (2 : Int32)), (.int (3 : Int32))]))
    refine Goes.pre (fun t kt => XS.icmpYes X0.here hx rfl (pc0 := 7) (pc' := 20) rfl (hb hby d13_7) rfl (Jvm.Free.XT.ii_ge_t ((by decide))) (by decide) (by decide) kt) ?_
    show Goes p e below s _ _ _ (s₁.setTop (mkF m 20 #[.val (.ref it), .val (.int (2 : Int32)), .val (.int (2 : Int32)), .val (.int (3 : Int32))] []))
    refine Goes.pre (fun t kt => XS.aloadN X0.here hx rfl (hb hby d13_20) rfl rfl kt) ?_
    show Goes p e below s _ _ _ (s₁.setTop (mkF m 21 #[.val (.ref it), .val (.int (2 : Int32)), .val (.int (2 : Int32)), .val (.int (3 : Int32))] [(.ref it)]))
    refine Goes.pre (fun t kt => XS.iloadN X0.here hx rfl (hb hby d13_21) rfl kt) ?_
    show Goes p e below s _ _ _ (s₁.setTop (mkF m 22 #[.val (.ref it), .val (.int (2 : Int32)), .val (.int (2 : Int32)), .val (.int (3 : Int32))] [(.int (3 : Int32)), (.ref it)]))
    obtain ⟨cl10, Ar10, aq10, aS10, aN10, aH10, aG10⟩ := pf_V_it
    have V10 : Arv Z h0 it kd .double (4 : Int32) [(.double w0), (.double w1), (.double w2), (.double w3)] (.double (0 : UInt64)) := ⟨cl10, Ar10, aq10, aS10, aN10, aH10, aG10⟩
    have hin10 : ¬ ((3 : Int32) < 0 ∨ cl10.slots.size ≤ ((3 : Int32)).toNatClampNeg) := inb_of aS10 ⟨by decide, by decide⟩
    have hat10 : cl10.slots[((3 : Int32)).toNatClampNeg]? = some (.double w3) := aH10.at hin10 rfl
    refine Goes.pre (X0.daload hx (j := (3 : Int32)) (v := (.double w3)) (by rw [e0]; exact Ar10.1) (State.isArrayOf_alike hZ.alike Ar10.2.1) Ar10.2.2 hin10 hat10 (g := (mkF m 22 #[.val (.ref it), .val (.int (2 : Int32)), .val (.int (2 : Int32)), .val (.int (3 : Int32))] [(.int (3 : Int32)), (.ref it)])) rfl rfl (hb hby d13_22)) ?_
    show Goes p e below s _ _ _ (s₁.setTop (mkF m 23 #[.val (.ref it), .val (.int (2 : Int32)), .val (.int (2 : Int32)), .val (.int (3 : Int32))] [(.double w3)]))
    refine Goes.ret X0 (some (.double w3)) (fun h => by rw [Bd.returns] at h; cases h) (BodyLoose.notSynchronized Bd) (by decide) (by decide) (fun fs hr => retOut X0 hx (t := .double) Bd.returns rfl (Or.inr (Or.inr (Or.inl ⟨rfl, rfl, _, rfl⟩))) (hb hby d13_23) hr) ?_
    show Q_rm13_3 Z it (2 : Int32) (2 : Int32) kd w0 w1 w2 w3 h0 n0 _ s₁.heap _
    rw [e0]
    exact ⟨(by rw [show own_e (2 : Int32) (2 : Int32) (3 : Int32) w0 w1 w2 w3 = w3 by simp [own_e, own_pick]]), N0, rfl⟩
  · show Goes p e below s _ _ _ (s₁.setTop (mkF m 0 #[.val (.ref it), .val (.int (2 : Int32)), .val (.int (3 : Int32)), .val (.int (3 : Int32))] []))
    refine Goes.pre (fun t kt => XS.iloadN X0.here hx rfl (hb hby d13_0) rfl kt) ?_
    show Goes p e below s _ _ _ (s₁.setTop (mkF m 1 #[.val (.ref it), .val (.int (2 : Int32)), .val (.int (3 : Int32)), .val (.int (3 : Int32))] [(.int (2 : Int32))]))
    refine Goes.pre (fun t kt => XS.iloadN X0.here hx rfl (hb hby d13_1) rfl kt) ?_
    show Goes p e below s _ _ _ (s₁.setTop (mkF m 2 #[.val (.ref it), .val (.int (2 : Int32)), .val (.int (3 : Int32)), .val (.int (3 : Int32))] [(.int (3 : Int32)), (.int (2 : Int32))]))
    refine Goes.pre (fun t kt => XS.icmpNo X0.here hx rfl (hb hby d13_2) rfl (Jvm.Free.XT.ii_gt_f ((by decide))) kt) ?_
    show Goes p e below s _ _ _ (s₁.setTop (mkF m 5 #[.val (.ref it), .val (.int (2 : Int32)), .val (.int (3 : Int32)), .val (.int (3 : Int32))] []))
    refine Goes.pre (fun t kt => XS.iloadN X0.here hx rfl (hb hby d13_5) rfl kt) ?_
    show Goes p e below s _ _ _ (s₁.setTop (mkF m 6 #[.val (.ref it), .val (.int (2 : Int32)), .val (.int (3 : Int32)), .val (.int (3 : Int32))] [(.int (3 : Int32))]))
    refine Goes.pre (fun t kt => XS.iloadN X0.here hx rfl (hb hby d13_6) rfl kt) ?_
    show Goes p e below s _ _ _ (s₁.setTop (mkF m 7 #[.val (.ref it), .val (.int (2 : Int32)), .val (.int (3 : Int32)), .val (.int (3 : Int32))] [(.int (3 : Int32)), (.int (3 : Int32))]))
    refine Goes.pre (fun t kt => XS.icmpYes X0.here hx rfl (pc0 := 7) (pc' := 20) rfl (hb hby d13_7) rfl (Jvm.Free.XT.ii_ge_t ((by decide))) (by decide) (by decide) kt) ?_
    show Goes p e below s _ _ _ (s₁.setTop (mkF m 20 #[.val (.ref it), .val (.int (2 : Int32)), .val (.int (3 : Int32)), .val (.int (3 : Int32))] []))
    refine Goes.pre (fun t kt => XS.aloadN X0.here hx rfl (hb hby d13_20) rfl rfl kt) ?_
    show Goes p e below s _ _ _ (s₁.setTop (mkF m 21 #[.val (.ref it), .val (.int (2 : Int32)), .val (.int (3 : Int32)), .val (.int (3 : Int32))] [(.ref it)]))
    refine Goes.pre (fun t kt => XS.iloadN X0.here hx rfl (hb hby d13_21) rfl kt) ?_
    show Goes p e below s _ _ _ (s₁.setTop (mkF m 22 #[.val (.ref it), .val (.int (2 : Int32)), .val (.int (3 : Int32)), .val (.int (3 : Int32))] [(.int (3 : Int32)), (.ref it)]))
    obtain ⟨cl11, Ar11, aq11, aS11, aN11, aH11, aG11⟩ := pf_V_it
    have V11 : Arv Z h0 it kd .double (4 : Int32) [(.double w0), (.double w1), (.double w2), (.double w3)] (.double (0 : UInt64)) := ⟨cl11, Ar11, aq11, aS11, aN11, aH11, aG11⟩
    have hin11 : ¬ ((3 : Int32) < 0 ∨ cl11.slots.size ≤ ((3 : Int32)).toNatClampNeg) := inb_of aS11 ⟨by decide, by decide⟩
    have hat11 : cl11.slots[((3 : Int32)).toNatClampNeg]? = some (.double w3) := aH11.at hin11 rfl
    refine Goes.pre (X0.daload hx (j := (3 : Int32)) (v := (.double w3)) (by rw [e0]; exact Ar11.1) (State.isArrayOf_alike hZ.alike Ar11.2.1) Ar11.2.2 hin11 hat11 (g := (mkF m 22 #[.val (.ref it), .val (.int (2 : Int32)), .val (.int (3 : Int32)), .val (.int (3 : Int32))] [(.int (3 : Int32)), (.ref it)])) rfl rfl (hb hby d13_22)) ?_
    show Goes p e below s _ _ _ (s₁.setTop (mkF m 23 #[.val (.ref it), .val (.int (2 : Int32)), .val (.int (3 : Int32)), .val (.int (3 : Int32))] [(.double w3)]))
    refine Goes.ret X0 (some (.double w3)) (fun h => by rw [Bd.returns] at h; cases h) (BodyLoose.notSynchronized Bd) (by decide) (by decide) (fun fs hr => retOut X0 hx (t := .double) Bd.returns rfl (Or.inr (Or.inr (Or.inl ⟨rfl, rfl, _, rfl⟩))) (hb hby d13_23) hr) ?_
    show Q_rm13_3 Z it (2 : Int32) (3 : Int32) kd w0 w1 w2 w3 h0 n0 _ s₁.heap _
    rw [e0]
    exact ⟨(by rw [show own_e (2 : Int32) (3 : Int32) (3 : Int32) w0 w1 w2 w3 = w3 by simp [own_e, own_pick]]), N0, rfl⟩
  · show Goes p e below s _ _ _ (s₁.setTop (mkF m 0 #[.val (.ref it), .val (.int (2 : Int32)), .val (.int (4 : Int32)), .val (.int (3 : Int32))] []))
    refine Goes.pre (fun t kt => XS.iloadN X0.here hx rfl (hb hby d13_0) rfl kt) ?_
    show Goes p e below s _ _ _ (s₁.setTop (mkF m 1 #[.val (.ref it), .val (.int (2 : Int32)), .val (.int (4 : Int32)), .val (.int (3 : Int32))] [(.int (2 : Int32))]))
    refine Goes.pre (fun t kt => XS.iloadN X0.here hx rfl (hb hby d13_1) rfl kt) ?_
    show Goes p e below s _ _ _ (s₁.setTop (mkF m 2 #[.val (.ref it), .val (.int (2 : Int32)), .val (.int (4 : Int32)), .val (.int (3 : Int32))] [(.int (3 : Int32)), (.int (2 : Int32))]))
    refine Goes.pre (fun t kt => XS.icmpNo X0.here hx rfl (hb hby d13_2) rfl (Jvm.Free.XT.ii_gt_f ((by decide))) kt) ?_
    show Goes p e below s _ _ _ (s₁.setTop (mkF m 5 #[.val (.ref it), .val (.int (2 : Int32)), .val (.int (4 : Int32)), .val (.int (3 : Int32))] []))
    refine Goes.pre (fun t kt => XS.iloadN X0.here hx rfl (hb hby d13_5) rfl kt) ?_
    show Goes p e below s _ _ _ (s₁.setTop (mkF m 6 #[.val (.ref it), .val (.int (2 : Int32)), .val (.int (4 : Int32)), .val (.int (3 : Int32))] [(.int (3 : Int32))]))
    refine Goes.pre (fun t kt => XS.iloadN X0.here hx rfl (hb hby d13_6) rfl kt) ?_
    show Goes p e below s _ _ _ (s₁.setTop (mkF m 7 #[.val (.ref it), .val (.int (2 : Int32)), .val (.int (4 : Int32)), .val (.int (3 : Int32))] [(.int (4 : Int32)), (.int (3 : Int32))]))
    refine Goes.pre (fun t kt => XS.icmpNo X0.here hx rfl (hb hby d13_7) rfl (Jvm.Free.XT.ii_ge_f ((by decide))) kt) ?_
    show Goes p e below s _ _ _ (s₁.setTop (mkF m 10 #[.val (.ref it), .val (.int (2 : Int32)), .val (.int (4 : Int32)), .val (.int (3 : Int32))] []))
    refine Goes.pre (fun t kt => XS.aloadN X0.here hx rfl (hb hby d13_10) rfl rfl kt) ?_
    show Goes p e below s _ _ _ (s₁.setTop (mkF m 11 #[.val (.ref it), .val (.int (2 : Int32)), .val (.int (4 : Int32)), .val (.int (3 : Int32))] [(.ref it)]))
    refine Goes.pre (fun t kt => XS.iloadN X0.here hx rfl (hb hby d13_11) rfl kt) ?_
    show Goes p e below s _ _ _ (s₁.setTop (mkF m 12 #[.val (.ref it), .val (.int (2 : Int32)), .val (.int (4 : Int32)), .val (.int (3 : Int32))] [(.int (2 : Int32)), (.ref it)]))
    refine Goes.pre (fun t kt => XS.iloadN X0.here hx rfl (hb hby d13_12) rfl kt) ?_
    show Goes p e below s _ _ _ (s₁.setTop (mkF m 13 #[.val (.ref it), .val (.int (2 : Int32)), .val (.int (4 : Int32)), .val (.int (3 : Int32))] [(.int (4 : Int32)), (.int (2 : Int32)), (.ref it)]))
    refine Goes.pre (fun t kt => XS.iadd X0.here hx rfl (hb hby d13_13) rfl kt) ?_
    show Goes p e below s _ _ _ (s₁.setTop (mkF m 14 #[.val (.ref it), .val (.int (2 : Int32)), .val (.int (4 : Int32)), .val (.int (3 : Int32))] [(.int (6 : Int32)), (.ref it)]))
    refine Goes.pre (fun t kt => XS.iconst X0.here hx rfl (hb hby d13_14) kt) ?_
    show Goes p e below s _ _ _ (s₁.setTop (mkF m 15 #[.val (.ref it), .val (.int (2 : Int32)), .val (.int (4 : Int32)), .val (.int (3 : Int32))] [(.int (1 : Int32)), (.int (6 : Int32)), (.ref it)]))
    refine Goes.pre (fun t kt => XS.isub X0.here hx rfl (hb hby d13_15) rfl kt) ?_
    show Goes p e below s _ _ _ (s₁.setTop (mkF m 16 #[.val (.ref it), .val (.int (2 : Int32)), .val (.int (4 : Int32)), .val (.int (3 : Int32))] [(.int (5 : Int32)), (.ref it)]))
    refine Goes.pre (fun t kt => XS.iloadN X0.here hx rfl (hb hby d13_16) rfl kt) ?_
    show Goes p e below s _ _ _ (s₁.setTop (mkF m 17 #[.val (.ref it), .val (.int (2 : Int32)), .val (.int (4 : Int32)), .val (.int (3 : Int32))] [(.int (3 : Int32)), (.int (5 : Int32)), (.ref it)]))
    refine Goes.pre (fun t kt => XS.isub X0.here hx rfl (hb hby d13_17) rfl kt) ?_
    show Goes p e below s _ _ _ (s₁.setTop (mkF m 18 #[.val (.ref it), .val (.int (2 : Int32)), .val (.int (4 : Int32)), .val (.int (3 : Int32))] [(.int (2 : Int32)), (.ref it)]))
    obtain ⟨cl12, Ar12, aq12, aS12, aN12, aH12, aG12⟩ := pf_V_it
    have V12 : Arv Z h0 it kd .double (4 : Int32) [(.double w0), (.double w1), (.double w2), (.double w3)] (.double (0 : UInt64)) := ⟨cl12, Ar12, aq12, aS12, aN12, aH12, aG12⟩
    have hin12 : ¬ ((2 : Int32) < 0 ∨ cl12.slots.size ≤ ((2 : Int32)).toNatClampNeg) := inb_of aS12 ⟨by decide, by decide⟩
    have hat12 : cl12.slots[((2 : Int32)).toNatClampNeg]? = some (.double w2) := aH12.at hin12 rfl
    refine Goes.pre (X0.daload hx (j := (2 : Int32)) (v := (.double w2)) (by rw [e0]; exact Ar12.1) (State.isArrayOf_alike hZ.alike Ar12.2.1) Ar12.2.2 hin12 hat12 (g := (mkF m 18 #[.val (.ref it), .val (.int (2 : Int32)), .val (.int (4 : Int32)), .val (.int (3 : Int32))] [(.int (2 : Int32)), (.ref it)])) rfl rfl (hb hby d13_18)) ?_
    show Goes p e below s _ _ _ (s₁.setTop (mkF m 19 #[.val (.ref it), .val (.int (2 : Int32)), .val (.int (4 : Int32)), .val (.int (3 : Int32))] [(.double w2)]))
    refine Goes.ret X0 (some (.double w2)) (fun h => by rw [Bd.returns] at h; cases h) (BodyLoose.notSynchronized Bd) (by decide) (by decide) (fun fs hr => retOut X0 hx (t := .double) Bd.returns rfl (Or.inr (Or.inr (Or.inl ⟨rfl, rfl, _, rfl⟩))) (hb hby d13_19) hr) ?_
    show Q_rm13_3 Z it (2 : Int32) (4 : Int32) kd w0 w1 w2 w3 h0 n0 _ s₁.heap _
    rw [e0]
    exact ⟨(by rw [show own_e (2 : Int32) (4 : Int32) (3 : Int32) w0 w1 w2 w3 = w2 by simp [own_e, own_pick]]), N0, rfl⟩
  · show Goes p e below s _ _ _ (s₁.setTop (mkF m 0 #[.val (.ref it), .val (.int (3 : Int32)), .val (.int (3 : Int32)), .val (.int (3 : Int32))] []))
    refine Goes.pre (fun t kt => XS.iloadN X0.here hx rfl (hb hby d13_0) rfl kt) ?_
    show Goes p e below s _ _ _ (s₁.setTop (mkF m 1 #[.val (.ref it), .val (.int (3 : Int32)), .val (.int (3 : Int32)), .val (.int (3 : Int32))] [(.int (3 : Int32))]))
    refine Goes.pre (fun t kt => XS.iloadN X0.here hx rfl (hb hby d13_1) rfl kt) ?_
    show Goes p e below s _ _ _ (s₁.setTop (mkF m 2 #[.val (.ref it), .val (.int (3 : Int32)), .val (.int (3 : Int32)), .val (.int (3 : Int32))] [(.int (3 : Int32)), (.int (3 : Int32))]))
    refine Goes.pre (fun t kt => XS.icmpNo X0.here hx rfl (hb hby d13_2) rfl (Jvm.Free.XT.ii_gt_f ((by decide))) kt) ?_
    show Goes p e below s _ _ _ (s₁.setTop (mkF m 5 #[.val (.ref it), .val (.int (3 : Int32)), .val (.int (3 : Int32)), .val (.int (3 : Int32))] []))
    refine Goes.pre (fun t kt => XS.iloadN X0.here hx rfl (hb hby d13_5) rfl kt) ?_
    show Goes p e below s _ _ _ (s₁.setTop (mkF m 6 #[.val (.ref it), .val (.int (3 : Int32)), .val (.int (3 : Int32)), .val (.int (3 : Int32))] [(.int (3 : Int32))]))
    refine Goes.pre (fun t kt => XS.iloadN X0.here hx rfl (hb hby d13_6) rfl kt) ?_
    show Goes p e below s _ _ _ (s₁.setTop (mkF m 7 #[.val (.ref it), .val (.int (3 : Int32)), .val (.int (3 : Int32)), .val (.int (3 : Int32))] [(.int (3 : Int32)), (.int (3 : Int32))]))
    refine Goes.pre (fun t kt => XS.icmpYes X0.here hx rfl (pc0 := 7) (pc' := 20) rfl (hb hby d13_7) rfl (Jvm.Free.XT.ii_ge_t ((by decide))) (by decide) (by decide) kt) ?_
    show Goes p e below s _ _ _ (s₁.setTop (mkF m 20 #[.val (.ref it), .val (.int (3 : Int32)), .val (.int (3 : Int32)), .val (.int (3 : Int32))] []))
    refine Goes.pre (fun t kt => XS.aloadN X0.here hx rfl (hb hby d13_20) rfl rfl kt) ?_
    show Goes p e below s _ _ _ (s₁.setTop (mkF m 21 #[.val (.ref it), .val (.int (3 : Int32)), .val (.int (3 : Int32)), .val (.int (3 : Int32))] [(.ref it)]))
    refine Goes.pre (fun t kt => XS.iloadN X0.here hx rfl (hb hby d13_21) rfl kt) ?_
    show Goes p e below s _ _ _ (s₁.setTop (mkF m 22 #[.val (.ref it), .val (.int (3 : Int32)), .val (.int (3 : Int32)), .val (.int (3 : Int32))] [(.int (3 : Int32)), (.ref it)]))
    obtain ⟨cl13, Ar13, aq13, aS13, aN13, aH13, aG13⟩ := pf_V_it
    have V13 : Arv Z h0 it kd .double (4 : Int32) [(.double w0), (.double w1), (.double w2), (.double w3)] (.double (0 : UInt64)) := ⟨cl13, Ar13, aq13, aS13, aN13, aH13, aG13⟩
    have hin13 : ¬ ((3 : Int32) < 0 ∨ cl13.slots.size ≤ ((3 : Int32)).toNatClampNeg) := inb_of aS13 ⟨by decide, by decide⟩
    have hat13 : cl13.slots[((3 : Int32)).toNatClampNeg]? = some (.double w3) := aH13.at hin13 rfl
    refine Goes.pre (X0.daload hx (j := (3 : Int32)) (v := (.double w3)) (by rw [e0]; exact Ar13.1) (State.isArrayOf_alike hZ.alike Ar13.2.1) Ar13.2.2 hin13 hat13 (g := (mkF m 22 #[.val (.ref it), .val (.int (3 : Int32)), .val (.int (3 : Int32)), .val (.int (3 : Int32))] [(.int (3 : Int32)), (.ref it)])) rfl rfl (hb hby d13_22)) ?_
    show Goes p e below s _ _ _ (s₁.setTop (mkF m 23 #[.val (.ref it), .val (.int (3 : Int32)), .val (.int (3 : Int32)), .val (.int (3 : Int32))] [(.double w3)]))
    refine Goes.ret X0 (some (.double w3)) (fun h => by rw [Bd.returns] at h; cases h) (BodyLoose.notSynchronized Bd) (by decide) (by decide) (fun fs hr => retOut X0 hx (t := .double) Bd.returns rfl (Or.inr (Or.inr (Or.inl ⟨rfl, rfl, _, rfl⟩))) (hb hby d13_23) hr) ?_
    show Q_rm13_3 Z it (3 : Int32) (3 : Int32) kd w0 w1 w2 w3 h0 n0 _ s₁.heap _
    rw [e0]
    exact ⟨(by rw [show own_e (3 : Int32) (3 : Int32) (3 : Int32) w0 w1 w2 w3 = w3 by simp [own_e, own_pick]]), N0, rfl⟩
  · show Goes p e below s _ _ _ (s₁.setTop (mkF m 0 #[.val (.ref it), .val (.int (3 : Int32)), .val (.int (4 : Int32)), .val (.int (3 : Int32))] []))
    refine Goes.pre (fun t kt => XS.iloadN X0.here hx rfl (hb hby d13_0) rfl kt) ?_
    show Goes p e below s _ _ _ (s₁.setTop (mkF m 1 #[.val (.ref it), .val (.int (3 : Int32)), .val (.int (4 : Int32)), .val (.int (3 : Int32))] [(.int (3 : Int32))]))
    refine Goes.pre (fun t kt => XS.iloadN X0.here hx rfl (hb hby d13_1) rfl kt) ?_
    show Goes p e below s _ _ _ (s₁.setTop (mkF m 2 #[.val (.ref it), .val (.int (3 : Int32)), .val (.int (4 : Int32)), .val (.int (3 : Int32))] [(.int (3 : Int32)), (.int (3 : Int32))]))
    refine Goes.pre (fun t kt => XS.icmpNo X0.here hx rfl (hb hby d13_2) rfl (Jvm.Free.XT.ii_gt_f ((by decide))) kt) ?_
    show Goes p e below s _ _ _ (s₁.setTop (mkF m 5 #[.val (.ref it), .val (.int (3 : Int32)), .val (.int (4 : Int32)), .val (.int (3 : Int32))] []))
    refine Goes.pre (fun t kt => XS.iloadN X0.here hx rfl (hb hby d13_5) rfl kt) ?_
    show Goes p e below s _ _ _ (s₁.setTop (mkF m 6 #[.val (.ref it), .val (.int (3 : Int32)), .val (.int (4 : Int32)), .val (.int (3 : Int32))] [(.int (3 : Int32))]))
    refine Goes.pre (fun t kt => XS.iloadN X0.here hx rfl (hb hby d13_6) rfl kt) ?_
    show Goes p e below s _ _ _ (s₁.setTop (mkF m 7 #[.val (.ref it), .val (.int (3 : Int32)), .val (.int (4 : Int32)), .val (.int (3 : Int32))] [(.int (4 : Int32)), (.int (3 : Int32))]))
    refine Goes.pre (fun t kt => XS.icmpNo X0.here hx rfl (hb hby d13_7) rfl (Jvm.Free.XT.ii_ge_f ((by decide))) kt) ?_
    show Goes p e below s _ _ _ (s₁.setTop (mkF m 10 #[.val (.ref it), .val (.int (3 : Int32)), .val (.int (4 : Int32)), .val (.int (3 : Int32))] []))
    refine Goes.pre (fun t kt => XS.aloadN X0.here hx rfl (hb hby d13_10) rfl rfl kt) ?_
    show Goes p e below s _ _ _ (s₁.setTop (mkF m 11 #[.val (.ref it), .val (.int (3 : Int32)), .val (.int (4 : Int32)), .val (.int (3 : Int32))] [(.ref it)]))
    refine Goes.pre (fun t kt => XS.iloadN X0.here hx rfl (hb hby d13_11) rfl kt) ?_
    show Goes p e below s _ _ _ (s₁.setTop (mkF m 12 #[.val (.ref it), .val (.int (3 : Int32)), .val (.int (4 : Int32)), .val (.int (3 : Int32))] [(.int (3 : Int32)), (.ref it)]))
    refine Goes.pre (fun t kt => XS.iloadN X0.here hx rfl (hb hby d13_12) rfl kt) ?_
    show Goes p e below s _ _ _ (s₁.setTop (mkF m 13 #[.val (.ref it), .val (.int (3 : Int32)), .val (.int (4 : Int32)), .val (.int (3 : Int32))] [(.int (4 : Int32)), (.int (3 : Int32)), (.ref it)]))
    refine Goes.pre (fun t kt => XS.iadd X0.here hx rfl (hb hby d13_13) rfl kt) ?_
    show Goes p e below s _ _ _ (s₁.setTop (mkF m 14 #[.val (.ref it), .val (.int (3 : Int32)), .val (.int (4 : Int32)), .val (.int (3 : Int32))] [(.int (7 : Int32)), (.ref it)]))
    refine Goes.pre (fun t kt => XS.iconst X0.here hx rfl (hb hby d13_14) kt) ?_
    show Goes p e below s _ _ _ (s₁.setTop (mkF m 15 #[.val (.ref it), .val (.int (3 : Int32)), .val (.int (4 : Int32)), .val (.int (3 : Int32))] [(.int (1 : Int32)), (.int (7 : Int32)), (.ref it)]))
    refine Goes.pre (fun t kt => XS.isub X0.here hx rfl (hb hby d13_15) rfl kt) ?_
    show Goes p e below s _ _ _ (s₁.setTop (mkF m 16 #[.val (.ref it), .val (.int (3 : Int32)), .val (.int (4 : Int32)), .val (.int (3 : Int32))] [(.int (6 : Int32)), (.ref it)]))
    refine Goes.pre (fun t kt => XS.iloadN X0.here hx rfl (hb hby d13_16) rfl kt) ?_
    show Goes p e below s _ _ _ (s₁.setTop (mkF m 17 #[.val (.ref it), .val (.int (3 : Int32)), .val (.int (4 : Int32)), .val (.int (3 : Int32))] [(.int (3 : Int32)), (.int (6 : Int32)), (.ref it)]))
    refine Goes.pre (fun t kt => XS.isub X0.here hx rfl (hb hby d13_17) rfl kt) ?_
    show Goes p e below s _ _ _ (s₁.setTop (mkF m 18 #[.val (.ref it), .val (.int (3 : Int32)), .val (.int (4 : Int32)), .val (.int (3 : Int32))] [(.int (3 : Int32)), (.ref it)]))
    obtain ⟨cl14, Ar14, aq14, aS14, aN14, aH14, aG14⟩ := pf_V_it
    have V14 : Arv Z h0 it kd .double (4 : Int32) [(.double w0), (.double w1), (.double w2), (.double w3)] (.double (0 : UInt64)) := ⟨cl14, Ar14, aq14, aS14, aN14, aH14, aG14⟩
    have hin14 : ¬ ((3 : Int32) < 0 ∨ cl14.slots.size ≤ ((3 : Int32)).toNatClampNeg) := inb_of aS14 ⟨by decide, by decide⟩
    have hat14 : cl14.slots[((3 : Int32)).toNatClampNeg]? = some (.double w3) := aH14.at hin14 rfl
    refine Goes.pre (X0.daload hx (j := (3 : Int32)) (v := (.double w3)) (by rw [e0]; exact Ar14.1) (State.isArrayOf_alike hZ.alike Ar14.2.1) Ar14.2.2 hin14 hat14 (g := (mkF m 18 #[.val (.ref it), .val (.int (3 : Int32)), .val (.int (4 : Int32)), .val (.int (3 : Int32))] [(.int (3 : Int32)), (.ref it)])) rfl rfl (hb hby d13_18)) ?_
    show Goes p e below s _ _ _ (s₁.setTop (mkF m 19 #[.val (.ref it), .val (.int (3 : Int32)), .val (.int (4 : Int32)), .val (.int (3 : Int32))] [(.double w3)]))
    refine Goes.ret X0 (some (.double w3)) (fun h => by rw [Bd.returns] at h; cases h) (BodyLoose.notSynchronized Bd) (by decide) (by decide) (fun fs hr => retOut X0 hx (t := .double) Bd.returns rfl (Or.inr (Or.inr (Or.inl ⟨rfl, rfl, _, rfl⟩))) (hb hby d13_19) hr) ?_
    show Q_rm13_3 Z it (3 : Int32) (4 : Int32) kd w0 w1 w2 w3 h0 n0 _ s₁.heap _
    rw [e0]
    exact ⟨(by rw [show own_e (3 : Int32) (4 : Int32) (3 : Int32) w0 w1 w2 w3 = w3 by simp [own_e, own_pick]]), N0, rfl⟩
  · show Goes p e below s _ _ _ (s₁.setTop (mkF m 0 #[.val (.ref it), .val (.int (4 : Int32)), .val (.int (4 : Int32)), .val (.int (3 : Int32))] []))
    refine Goes.pre (fun t kt => XS.iloadN X0.here hx rfl (hb hby d13_0) rfl kt) ?_
    show Goes p e below s _ _ _ (s₁.setTop (mkF m 1 #[.val (.ref it), .val (.int (4 : Int32)), .val (.int (4 : Int32)), .val (.int (3 : Int32))] [(.int (4 : Int32))]))
    refine Goes.pre (fun t kt => XS.iloadN X0.here hx rfl (hb hby d13_1) rfl kt) ?_
    show Goes p e below s _ _ _ (s₁.setTop (mkF m 2 #[.val (.ref it), .val (.int (4 : Int32)), .val (.int (4 : Int32)), .val (.int (3 : Int32))] [(.int (3 : Int32)), (.int (4 : Int32))]))
    refine Goes.pre (fun t kt => XS.icmpYes X0.here hx rfl (pc0 := 2) (pc' := 20) rfl (hb hby d13_2) rfl (Jvm.Free.XT.ii_gt_t ((by decide))) (by decide) (by decide) kt) ?_
    show Goes p e below s _ _ _ (s₁.setTop (mkF m 20 #[.val (.ref it), .val (.int (4 : Int32)), .val (.int (4 : Int32)), .val (.int (3 : Int32))] []))
    refine Goes.pre (fun t kt => XS.aloadN X0.here hx rfl (hb hby d13_20) rfl rfl kt) ?_
    show Goes p e below s _ _ _ (s₁.setTop (mkF m 21 #[.val (.ref it), .val (.int (4 : Int32)), .val (.int (4 : Int32)), .val (.int (3 : Int32))] [(.ref it)]))
    refine Goes.pre (fun t kt => XS.iloadN X0.here hx rfl (hb hby d13_21) rfl kt) ?_
    show Goes p e below s _ _ _ (s₁.setTop (mkF m 22 #[.val (.ref it), .val (.int (4 : Int32)), .val (.int (4 : Int32)), .val (.int (3 : Int32))] [(.int (3 : Int32)), (.ref it)]))
    obtain ⟨cl15, Ar15, aq15, aS15, aN15, aH15, aG15⟩ := pf_V_it
    have V15 : Arv Z h0 it kd .double (4 : Int32) [(.double w0), (.double w1), (.double w2), (.double w3)] (.double (0 : UInt64)) := ⟨cl15, Ar15, aq15, aS15, aN15, aH15, aG15⟩
    have hin15 : ¬ ((3 : Int32) < 0 ∨ cl15.slots.size ≤ ((3 : Int32)).toNatClampNeg) := inb_of aS15 ⟨by decide, by decide⟩
    have hat15 : cl15.slots[((3 : Int32)).toNatClampNeg]? = some (.double w3) := aH15.at hin15 rfl
    refine Goes.pre (X0.daload hx (j := (3 : Int32)) (v := (.double w3)) (by rw [e0]; exact Ar15.1) (State.isArrayOf_alike hZ.alike Ar15.2.1) Ar15.2.2 hin15 hat15 (g := (mkF m 22 #[.val (.ref it), .val (.int (4 : Int32)), .val (.int (4 : Int32)), .val (.int (3 : Int32))] [(.int (3 : Int32)), (.ref it)])) rfl rfl (hb hby d13_22)) ?_
    show Goes p e below s _ _ _ (s₁.setTop (mkF m 23 #[.val (.ref it), .val (.int (4 : Int32)), .val (.int (4 : Int32)), .val (.int (3 : Int32))] [(.double w3)]))
    refine Goes.ret X0 (some (.double w3)) (fun h => by rw [Bd.returns] at h; cases h) (BodyLoose.notSynchronized Bd) (by decide) (by decide) (fun fs hr => retOut X0 hx (t := .double) Bd.returns rfl (Or.inr (Or.inr (Or.inl ⟨rfl, rfl, _, rfl⟩))) (hb hby d13_23) hr) ?_
    show Q_rm13_3 Z it (4 : Int32) (4 : Int32) kd w0 w1 w2 w3 h0 n0 _ s₁.heap _
    rw [e0]
    exact ⟨(by rw [show own_e (4 : Int32) (4 : Int32) (3 : Int32) w0 w1 w2 w3 = w3 by simp [own_e, own_pick]]), N0, rfl⟩
theorem pd_8 : parseMethodDescriptor "(II)I" = some ⟨[.int, .int], some .int⟩ := by decide +kernel
theorem pd_9 : parseMethodDescriptor "(I)V" = some ⟨[.int], none⟩ := by decide +kernel
theorem pd_10 : parseMethodDescriptor "(ID)V" = some ⟨[.int, .double], none⟩ := by decide +kernel
theorem pd_11 : parseMethodDescriptor "(II)V" = some ⟨[.int, .int], none⟩ := by decide +kernel
theorem pd_12 : parseMethodDescriptor "(I)Ljava/lang/Double;" = some ⟨[.int], some (.object "java/lang/Double")⟩ := by decide +kernel
theorem pd_13 : parseMethodDescriptor "()D" = some ⟨[], some .double⟩ := by decide +kernel
theorem pd_14 : parseMethodDescriptor "([DIII)D" = some ⟨[(.array .double), .int, .int, .int], some .double⟩ := by decide +kernel
def Q_rm0 (Z : State) (p1 : Int32) (p2 : Int32) (p3 : Int32) (p4 : Int32) (p5 : Int32) (p6 : Int32) (h0 : Heap) (n0 : Nat) (v : Option Value) (h : Heap) (L : List Loc) : Prop := v = some (.int (1 : Int32)) ∧ Fr n0 L
theorem ef_rm0 (m : MethodId) (p1 : Int32) (p2 : Int32) (p3 : Int32) (p4 : Int32) (p5 : Int32) (p6 : Int32) : entryFrame m #[(.int p1), (.int p2), (.int p3), (.int p4), (.int p5), (.int p6)] maxLocals = mkF m 0 #[.val (.int p1), .val (.int p2), .val (.int p3), .val (.int p4), .val (.int p5), .val (.int p6), .unset, .unset, .unset, .unset, .unset, .unset, .unset, .unset, .unset, .unset, .unset, .unset, .unset, .unset] [] := by first | (simp [entryFrame, mkF, argsToLocals, Value.category, maxLocals]; done) | rfl
set_option maxRecDepth 65536 in
set_option maxHeartbeats 40000000 in
theorem rm0 (l : Launch) (Z : State) (a0 : Array Value) (hw : ∀ d ∈ tables_1, d.before a0 Z = true) (ws : List Jvm.Cond) (p1 : Int32) (p2 : Int32) (p3 : Int32) (p4 : Int32) (p5 : Int32) (p6 : Int32) (h0 : Heap) (n0 : Nat) (Z0 : n0 ≤ h0.size) :
    MetFree l x (head1 (Jvm.Cond.code x code maxLocals ret :: ws) room_1) (fun a U => a = #[(.int p1), (.int p2), (.int p3), (.int p4), (.int p5), (.int p6)] ∧ Z.Warmed39 U.vm ∧ U.heap = h0) (fun _ _ _ _ _ => True) (fun _ U o U' => ∃ v L, o = .returned v ∧ Q_rm0 Z p1 p2 p3 p4 p5 p6 h0 n0 v U'.heap L ∧ FrameEnd U o U' L room_1.cells room_1.slots) := by
  refine MetFree.of_bodySF (plainFor_of_name pn_7) hisR ?_
  intro p e s m args below meth c s₁ Bd hml0 hP hK
  obtain ⟨rfl, hZ, hh⟩ := hP
  have hx := Bd.exec
  have hby := Bd.bytes
  have hml : c.maxLocals = 20 := hml0
  have hown : s.vm.findClass "com/example/quantail/quantail/NumberArrayReversePinLaw" = some m.cls := findClass_of_methodNamed Bd.named
  have hnm := (name_of_methodNamed Bd.named Bd.method).1
  have X0 : Stand p l e room_1 s m #[(.int p1), (.int p2), (.int p3), (.int p4), (.int p5), (.int p6)] below meth c s₁ [] 0 0 := Stand.of_body Bd
  have e0 : s₁.heap = h0 := by rw [← hh, Bd.state]; rfl
  have N0 := Fr.nil n0
  show Goes p e below s (Q_rm0 Z p1 p2 p3 p4 p5 p6 h0 n0) room_1.cells room_1.slots (s₁.setTop (entryFrame m #[(.int p1), (.int p2), (.int p3), (.int p4), (.int p5), (.int p6)] maxLocals))
  refine Goes.pre (fun t kt => castTop (ef_rm0 m p1 p2 p3 p4 p5 p6) kt) ?_
  show Goes p e below s _ _ _ (s₁.setTop (mkF m 0 #[.val (.int p1), .val (.int p2), .val (.int p3), .val (.int p4), .val (.int p5), .val (.int p6), .unset, .unset, .unset, .unset, .unset, .unset, .unset, .unset, .unset, .unset, .unset, .unset, .unset, .unset] []))
  refine Goes.pre (fun t kt => XS.iconst X0.here hx rfl (hb hby at_0) kt) ?_
  show Goes p e below s _ _ _ (s₁.setTop (mkF m 1 #[.val (.int p1), .val (.int p2), .val (.int p3), .val (.int p4), .val (.int p5), .val (.int p6), .unset, .unset, .unset, .unset, .unset, .unset, .unset, .unset, .unset, .unset, .unset, .unset, .unset, .unset] [(.int (4 : Int32))]))
  obtain ⟨T1, h1, k1, X1, e1, E1, A1, st1⟩ := newP X0 hx hZ (hw _ (List.mem_of_getElem? (i := 0) rfl)) e0 (g := (mkF m 1 #[.val (.int p1), .val (.int p2), .val (.int p3), .val (.int p4), .val (.int p5), .val (.int p6), .unset, .unset, .unset, .unset, .unset, .unset, .unset, .unset, .unset, .unset, .unset, .unset, .unset, .unset] [(.int (4 : Int32))])) rfl (hb hby at_1) rfl (by decide) (cap := 4) (by decide) (by decide) (by decide) (by decide)
  obtain ⟨b1, g1⟩ : ∃ z, z = h0.size := ⟨_, rfl⟩
  rw [← g1] at A1 st1
  have gg1 : n0 ≤ b1 := Nat.le_trans Z0 (Nat.le_of_eq g1.symm)
  have Z1 : n0 ≤ h1.size := Nat.le_trans Z0 E1.1
  refine Goes.pre st1 ?_
  have V1 : Arv Z h1 b1 k1 .double (4 : Int32) [(.double (0 : UInt64)), (.double (0 : UInt64)), (.double (0 : UInt64)), (.double (0 : UInt64))] (.double (0 : UInt64)) := (Arv.new A1 (by decide)).pad (pad_rep [] (.double (0 : UInt64)) 4)
  show Goes p e below s _ _ _ (T1.setTop (mkF m 3 #[.val (.int p1), .val (.int p2), .val (.int p3), .val (.int p4), .val (.int p5), .val (.int p6), .unset, .unset, .unset, .unset, .unset, .unset, .unset, .unset, .unset, .unset, .unset, .unset, .unset, .unset] [(.ref b1)]))
  refine Goes.pre (fun t kt => XS.dup X1.here hx rfl (hb hby at_3) rfl rfl kt) ?_
  show Goes p e below s _ _ _ (T1.setTop (mkF m 4 #[.val (.int p1), .val (.int p2), .val (.int p3), .val (.int p4), .val (.int p5), .val (.int p6), .unset, .unset, .unset, .unset, .unset, .unset, .unset, .unset, .unset, .unset, .unset, .unset, .unset, .unset] [(.ref b1), (.ref b1)]))
  refine Goes.pre (fun t kt => XS.iconst X1.here hx rfl (hb hby at_4) kt) ?_
  show Goes p e below s _ _ _ (T1.setTop (mkF m 5 #[.val (.int p1), .val (.int p2), .val (.int p3), .val (.int p4), .val (.int p5), .val (.int p6), .unset, .unset, .unset, .unset, .unset, .unset, .unset, .unset, .unset, .unset, .unset, .unset, .unset, .unset] [(.int (0 : Int32)), (.ref b1), (.ref b1)]))
  refine Goes.pre (fun t kt => XS.iloadN X1.here hx rfl (hb hby at_5) rfl kt) ?_
  show Goes p e below s _ _ _ (T1.setTop (mkF m 6 #[.val (.int p1), .val (.int p2), .val (.int p3), .val (.int p4), .val (.int p5), .val (.int p6), .unset, .unset, .unset, .unset, .unset, .unset, .unset, .unset, .unset, .unset, .unset, .unset, .unset, .unset] [(.int p1), (.int (0 : Int32)), (.ref b1), (.ref b1)]))
  refine Goes.pre (fun t kt => XS.i2dS X1.here hx rfl (hb hby at_6) rfl (v := FP.l2d p1.toInt64) (i2d_w _) kt) ?_
  show Goes p e below s _ _ _ (T1.setTop (mkF m 7 #[.val (.int p1), .val (.int p2), .val (.int p3), .val (.int p4), .val (.int p5), .val (.int p6), .unset, .unset, .unset, .unset, .unset, .unset, .unset, .unset, .unset, .unset, .unset, .unset, .unset, .unset] [(.double (FP.l2d p1.toInt64)), (.int (0 : Int32)), (.ref b1), (.ref b1)]))
  obtain ⟨cl2, Ar2, aq2, aS2, aN2, aH2, aG2⟩ := V1
  have hin2 : ¬ ((0 : Int32) < 0 ∨ cl2.slots.size ≤ ((0 : Int32)).toNatClampNeg) := inb_of aS2 ⟨by decide, by decide⟩
  obtain ⟨T2, h2, X2, e2, W2, st2⟩ := stD X1 hx hZ e1 Ar2 (j := (0 : Int32)) hin2 (g := (mkF m 7 #[.val (.int p1), .val (.int p2), .val (.int p3), .val (.int p4), .val (.int p5), .val (.int p6), .unset, .unset, .unset, .unset, .unset, .unset, .unset, .unset, .unset, .unset, .unset, .unset, .unset, .unset] [(.double (FP.l2d p1.toInt64)), (.int (0 : Int32)), (.ref b1), (.ref b1)])) rfl rfl (hb hby at_7)
  refine Goes.pre st2 ?_
  have Z2 : n0 ≤ h2.size := Nat.le_trans Z1 (Keep.of_wr W2).1
  have N2 := Fr.snoc X2 N0 gg1
  have V2 : Arv Z h2 b1 k1 .double (4 : Int32) [(.double (FP.l2d p1.toInt64)), (.double (0 : UInt64)), (.double (0 : UInt64)), (.double (0 : UInt64))] (.double (0 : UInt64)) := Arv.set Ar2 aq2 aS2 aN2 aH2 aG2 rfl W2 0 rfl (Nat.le_of_ble_eq_true rfl)
  show Goes p e below s _ _ _ (T2.setTop (mkF m 8 #[.val (.int p1), .val (.int p2), .val (.int p3), .val (.int p4), .val (.int p5), .val (.int p6), .unset, .unset, .unset, .unset, .unset, .unset, .unset, .unset, .unset, .unset, .unset, .unset, .unset, .unset] [(.ref b1)]))
  refine Goes.pre (fun t kt => XS.dup X2.here hx rfl (hb hby at_8) rfl rfl kt) ?_
  show Goes p e below s _ _ _ (T2.setTop (mkF m 9 #[.val (.int p1), .val (.int p2), .val (.int p3), .val (.int p4), .val (.int p5), .val (.int p6), .unset, .unset, .unset, .unset, .unset, .unset, .unset, .unset, .unset, .unset, .unset, .unset, .unset, .unset] [(.ref b1), (.ref b1)]))
  refine Goes.pre (fun t kt => XS.iconst X2.here hx rfl (hb hby at_9) kt) ?_
  show Goes p e below s _ _ _ (T2.setTop (mkF m 10 #[.val (.int p1), .val (.int p2), .val (.int p3), .val (.int p4), .val (.int p5), .val (.int p6), .unset, .unset, .unset, .unset, .unset, .unset, .unset, .unset, .unset, .unset, .unset, .unset, .unset, .unset] [(.int (1 : Int32)), (.ref b1), (.ref b1)]))
  refine Goes.pre (fun t kt => XS.iloadN X2.here hx rfl (hb hby at_10) rfl kt) ?_
  show Goes p e below s _ _ _ (T2.setTop (mkF m 11 #[.val (.int p1), .val (.int p2), .val (.int p3), .val (.int p4), .val (.int p5), .val (.int p6), .unset, .unset, .unset, .unset, .unset, .unset, .unset, .unset, .unset, .unset, .unset, .unset, .unset, .unset] [(.int p2), (.int (1 : Int32)), (.ref b1), (.ref b1)]))
  refine Goes.pre (fun t kt => XS.i2dS X2.here hx rfl (hb hby at_11) rfl (v := FP.l2d p2.toInt64) (i2d_w _) kt) ?_
  show Goes p e below s _ _ _ (T2.setTop (mkF m 12 #[.val (.int p1), .val (.int p2), .val (.int p3), .val (.int p4), .val (.int p5), .val (.int p6), .unset, .unset, .unset, .unset, .unset, .unset, .unset, .unset, .unset, .unset, .unset, .unset, .unset, .unset] [(.double (FP.l2d p2.toInt64)), (.int (1 : Int32)), (.ref b1), (.ref b1)]))
  obtain ⟨cl3, Ar3, aq3, aS3, aN3, aH3, aG3⟩ := V2
  have hin3 : ¬ ((1 : Int32) < 0 ∨ cl3.slots.size ≤ ((1 : Int32)).toNatClampNeg) := inb_of aS3 ⟨by decide, by decide⟩
  obtain ⟨T3, h3, X3, e3, W3, st3⟩ := stD X2 hx hZ e2 Ar3 (j := (1 : Int32)) hin3 (g := (mkF m 12 #[.val (.int p1), .val (.int p2), .val (.int p3), .val (.int p4), .val (.int p5), .val (.int p6), .unset, .unset, .unset, .unset, .unset, .unset, .unset, .unset, .unset, .unset, .unset, .unset, .unset, .unset] [(.double (FP.l2d p2.toInt64)), (.int (1 : Int32)), (.ref b1), (.ref b1)])) rfl rfl (hb hby at_12)
  refine Goes.pre st3 ?_
  have Z3 : n0 ≤ h3.size := Nat.le_trans Z2 (Keep.of_wr W3).1
  have N3 := Fr.snoc X3 N2 gg1
  have V3 : Arv Z h3 b1 k1 .double (4 : Int32) [(.double (FP.l2d p1.toInt64)), (.double (FP.l2d p2.toInt64)), (.double (0 : UInt64)), (.double (0 : UInt64))] (.double (0 : UInt64)) := Arv.set Ar3 aq3 aS3 aN3 aH3 aG3 rfl W3 1 rfl (Nat.le_of_ble_eq_true rfl)
  show Goes p e below s _ _ _ (T3.setTop (mkF m 13 #[.val (.int p1), .val (.int p2), .val (.int p3), .val (.int p4), .val (.int p5), .val (.int p6), .unset, .unset, .unset, .unset, .unset, .unset, .unset, .unset, .unset, .unset, .unset, .unset, .unset, .unset] [(.ref b1)]))
  refine Goes.pre (fun t kt => XS.dup X3.here hx rfl (hb hby at_13) rfl rfl kt) ?_
  show Goes p e below s _ _ _ (T3.setTop (mkF m 14 #[.val (.int p1), .val (.int p2), .val (.int p3), .val (.int p4), .val (.int p5), .val (.int p6), .unset, .unset, .unset, .unset, .unset, .unset, .unset, .unset, .unset, .unset, .unset, .unset, .unset, .unset] [(.ref b1), (.ref b1)]))
  refine Goes.pre (fun t kt => XS.iconst X3.here hx rfl (hb hby at_14) kt) ?_
  show Goes p e below s _ _ _ (T3.setTop (mkF m 15 #[.val (.int p1), .val (.int p2), .val (.int p3), .val (.int p4), .val (.int p5), .val (.int p6), .unset, .unset, .unset, .unset, .unset, .unset, .unset, .unset, .unset, .unset, .unset, .unset, .unset, .unset] [(.int (2 : Int32)), (.ref b1), (.ref b1)]))
  refine Goes.pre (fun t kt => XS.iloadN X3.here hx rfl (hb hby at_15) rfl kt) ?_
  show Goes p e below s _ _ _ (T3.setTop (mkF m 16 #[.val (.int p1), .val (.int p2), .val (.int p3), .val (.int p4), .val (.int p5), .val (.int p6), .unset, .unset, .unset, .unset, .unset, .unset, .unset, .unset, .unset, .unset, .unset, .unset, .unset, .unset] [(.int p3), (.int (2 : Int32)), (.ref b1), (.ref b1)]))
  refine Goes.pre (fun t kt => XS.i2dS X3.here hx rfl (hb hby at_16) rfl (v := FP.l2d p3.toInt64) (i2d_w _) kt) ?_
  show Goes p e below s _ _ _ (T3.setTop (mkF m 17 #[.val (.int p1), .val (.int p2), .val (.int p3), .val (.int p4), .val (.int p5), .val (.int p6), .unset, .unset, .unset, .unset, .unset, .unset, .unset, .unset, .unset, .unset, .unset, .unset, .unset, .unset] [(.double (FP.l2d p3.toInt64)), (.int (2 : Int32)), (.ref b1), (.ref b1)]))
  obtain ⟨cl4, Ar4, aq4, aS4, aN4, aH4, aG4⟩ := V3
  have hin4 : ¬ ((2 : Int32) < 0 ∨ cl4.slots.size ≤ ((2 : Int32)).toNatClampNeg) := inb_of aS4 ⟨by decide, by decide⟩
  obtain ⟨T4, h4, X4, e4, W4, st4⟩ := stD X3 hx hZ e3 Ar4 (j := (2 : Int32)) hin4 (g := (mkF m 17 #[.val (.int p1), .val (.int p2), .val (.int p3), .val (.int p4), .val (.int p5), .val (.int p6), .unset, .unset, .unset, .unset, .unset, .unset, .unset, .unset, .unset, .unset, .unset, .unset, .unset, .unset] [(.double (FP.l2d p3.toInt64)), (.int (2 : Int32)), (.ref b1), (.ref b1)])) rfl rfl (hb hby at_17)
  refine Goes.pre st4 ?_
  have Z4 : n0 ≤ h4.size := Nat.le_trans Z3 (Keep.of_wr W4).1
  have N4 := Fr.snoc X4 N3 gg1
  have V4 : Arv Z h4 b1 k1 .double (4 : Int32) [(.double (FP.l2d p1.toInt64)), (.double (FP.l2d p2.toInt64)), (.double (FP.l2d p3.toInt64)), (.double (0 : UInt64))] (.double (0 : UInt64)) := Arv.set Ar4 aq4 aS4 aN4 aH4 aG4 rfl W4 2 rfl (Nat.le_of_ble_eq_true rfl)
  show Goes p e below s _ _ _ (T4.setTop (mkF m 18 #[.val (.int p1), .val (.int p2), .val (.int p3), .val (.int p4), .val (.int p5), .val (.int p6), .unset, .unset, .unset, .unset, .unset, .unset, .unset, .unset, .unset, .unset, .unset, .unset, .unset, .unset] [(.ref b1)]))
  refine Goes.pre (fun t kt => XS.dup X4.here hx rfl (hb hby at_18) rfl rfl kt) ?_
  show Goes p e below s _ _ _ (T4.setTop (mkF m 19 #[.val (.int p1), .val (.int p2), .val (.int p3), .val (.int p4), .val (.int p5), .val (.int p6), .unset, .unset, .unset, .unset, .unset, .unset, .unset, .unset, .unset, .unset, .unset, .unset, .unset, .unset] [(.ref b1), (.ref b1)]))
  refine Goes.pre (fun t kt => XS.iconst X4.here hx rfl (hb hby at_19) kt) ?_
  show Goes p e below s _ _ _ (T4.setTop (mkF m 20 #[.val (.int p1), .val (.int p2), .val (.int p3), .val (.int p4), .val (.int p5), .val (.int p6), .unset, .unset, .unset, .unset, .unset, .unset, .unset, .unset, .unset, .unset, .unset, .unset, .unset, .unset] [(.int (3 : Int32)), (.ref b1), (.ref b1)]))
  refine Goes.pre (fun t kt => XS.iloadN X4.here hx rfl (hb hby at_20) rfl kt) ?_
  show Goes p e below s _ _ _ (T4.setTop (mkF m 21 #[.val (.int p1), .val (.int p2), .val (.int p3), .val (.int p4), .val (.int p5), .val (.int p6), .unset, .unset, .unset, .unset, .unset, .unset, .unset, .unset, .unset, .unset, .unset, .unset, .unset, .unset] [(.int p4), (.int (3 : Int32)), (.ref b1), (.ref b1)]))
  refine Goes.pre (fun t kt => XS.i2dS X4.here hx rfl (hb hby at_21) rfl (v := FP.l2d p4.toInt64) (i2d_w _) kt) ?_
  show Goes p e below s _ _ _ (T4.setTop (mkF m 22 #[.val (.int p1), .val (.int p2), .val (.int p3), .val (.int p4), .val (.int p5), .val (.int p6), .unset, .unset, .unset, .unset, .unset, .unset, .unset, .unset, .unset, .unset, .unset, .unset, .unset, .unset] [(.double (FP.l2d p4.toInt64)), (.int (3 : Int32)), (.ref b1), (.ref b1)]))
  obtain ⟨cl5, Ar5, aq5, aS5, aN5, aH5, aG5⟩ := V4
  have hin5 : ¬ ((3 : Int32) < 0 ∨ cl5.slots.size ≤ ((3 : Int32)).toNatClampNeg) := inb_of aS5 ⟨by decide, by decide⟩
  obtain ⟨T5, h5, X5, e5, W5, st5⟩ := stD X4 hx hZ e4 Ar5 (j := (3 : Int32)) hin5 (g := (mkF m 22 #[.val (.int p1), .val (.int p2), .val (.int p3), .val (.int p4), .val (.int p5), .val (.int p6), .unset, .unset, .unset, .unset, .unset, .unset, .unset, .unset, .unset, .unset, .unset, .unset, .unset, .unset] [(.double (FP.l2d p4.toInt64)), (.int (3 : Int32)), (.ref b1), (.ref b1)])) rfl rfl (hb hby at_22)
  refine Goes.pre st5 ?_
  have Z5 : n0 ≤ h5.size := Nat.le_trans Z4 (Keep.of_wr W5).1
  have N5 := Fr.snoc X5 N4 gg1
  have V5 : Arv Z h5 b1 k1 .double (4 : Int32) [(.double (FP.l2d p1.toInt64)), (.double (FP.l2d p2.toInt64)), (.double (FP.l2d p3.toInt64)), (.double (FP.l2d p4.toInt64))] (.double (0 : UInt64)) := Arv.set Ar5 aq5 aS5 aN5 aH5 aG5 rfl W5 3 rfl (Nat.le_of_ble_eq_true rfl)
  show Goes p e below s _ _ _ (T5.setTop (mkF m 23 #[.val (.int p1), .val (.int p2), .val (.int p3), .val (.int p4), .val (.int p5), .val (.int p6), .unset, .unset, .unset, .unset, .unset, .unset, .unset, .unset, .unset, .unset, .unset, .unset, .unset, .unset] [(.ref b1)]))
  refine Goes.pre (fun t kt => XS.astore X5.here hx rfl (hb hby at_23) rfl rfl (l' := #[.val (.int p1), .val (.int p2), .val (.int p3), .val (.int p4), .val (.int p5), .val (.int p6), .val (.ref b1), .unset, .unset, .unset, .unset, .unset, .unset, .unset, .unset, .unset, .unset, .unset, .unset, .unset]) rfl kt) ?_
  show Goes p e below s _ _ _ (T5.setTop (mkF m 25 #[.val (.int p1), .val (.int p2), .val (.int p3), .val (.int p4), .val (.int p5), .val (.int p6), .val (.ref b1), .unset, .unset, .unset, .unset, .unset, .unset, .unset, .unset, .unset, .unset, .unset, .unset, .unset] []))
  refine Goes.pre (fun t kt => XS.iload X5.here hx rfl (hb hby at_25) rfl kt) ?_
  show Goes p e below s _ _ _ (T5.setTop (mkF m 27 #[.val (.int p1), .val (.int p2), .val (.int p3), .val (.int p4), .val (.int p5), .val (.int p6), .val (.ref b1), .unset, .unset, .unset, .unset, .unset, .unset, .unset, .unset, .unset, .unset, .unset, .unset, .unset] [(.int p5)]))
  refine Goes.pre (X5.ldcInt hx hown (mvT hZ (hw _ (List.mem_of_getElem? (i := 1) rfl))) (g := (mkF m 27 #[.val (.int p1), .val (.int p2), .val (.int p3), .val (.int p4), .val (.int p5), .val (.int p6), .val (.ref b1), .unset, .unset, .unset, .unset, .unset, .unset, .unset, .unset, .unset, .unset, .unset, .unset, .unset] [(.int p5)])) rfl (hb hby at_27)) ?_
  show Goes p e below s _ _ _ (T5.setTop (mkF m 29 #[.val (.int p1), .val (.int p2), .val (.int p3), .val (.int p4), .val (.int p5), .val (.int p6), .val (.ref b1), .unset, .unset, .unset, .unset, .unset, .unset, .unset, .unset, .unset, .unset, .unset, .unset, .unset] [(.int (2147483647 : Int32)), (.int p5)]))
  refine Goes.pre (fun t kt => XS.iand X5.here hx rfl (hb hby at_29) rfl kt) ?_
  show Goes p e below s _ _ _ (T5.setTop (mkF m 30 #[.val (.int p1), .val (.int p2), .val (.int p3), .val (.int p4), .val (.int p5), .val (.int p6), .val (.ref b1), .unset, .unset, .unset, .unset, .unset, .unset, .unset, .unset, .unset, .unset, .unset, .unset, .unset] [(.int (p5 &&& (2147483647 : Int32)))]))
  refine Goes.pre (fun t kt => XS.iconst X5.here hx rfl (hb hby at_30) kt) ?_
  show Goes p e below s _ _ _ (T5.setTop (mkF m 31 #[.val (.int p1), .val (.int p2), .val (.int p3), .val (.int p4), .val (.int p5), .val (.int p6), .val (.ref b1), .unset, .unset, .unset, .unset, .unset, .unset, .unset, .unset, .unset, .unset, .unset, .unset, .unset] [(.int (5 : Int32)), (.int (p5 &&& (2147483647 : Int32)))]))
  refine Goes.pre (fun t kt => Jvm.RoadKit.iremM X5 hx rfl (hb hby at_31) rfl (by decide) kt) ?_
  show Goes p e below s _ _ _ (T5.setTop (mkF m 32 #[.val (.int p1), .val (.int p2), .val (.int p3), .val (.int p4), .val (.int p5), .val (.int p6), .val (.ref b1), .unset, .unset, .unset, .unset, .unset, .unset, .unset, .unset, .unset, .unset, .unset, .unset, .unset] [(.int ((p5 &&& (2147483647 : Int32)) % (5 : Int32)))]))
  refine Goes.pre (fun t kt => XS.istore X5.here hx rfl (hb hby at_32) rfl (l' := #[.val (.int p1), .val (.int p2), .val (.int p3), .val (.int p4), .val (.int p5), .val (.int p6), .val (.ref b1), .val (.int ((p5 &&& (2147483647 : Int32)) % (5 : Int32))), .unset, .unset, .unset, .unset, .unset, .unset, .unset, .unset, .unset, .unset, .unset, .unset]) rfl kt) ?_
  show Goes p e below s _ _ _ (T5.setTop (mkF m 34 #[.val (.int p1), .val (.int p2), .val (.int p3), .val (.int p4), .val (.int p5), .val (.int p6), .val (.ref b1), .val (.int ((p5 &&& (2147483647 : Int32)) % (5 : Int32))), .unset, .unset, .unset, .unset, .unset, .unset, .unset, .unset, .unset, .unset, .unset, .unset] []))
  refine Goes.pre (fun t kt => XS.iload X5.here hx rfl (hb hby at_34) rfl kt) ?_
  show Goes p e below s _ _ _ (T5.setTop (mkF m 36 #[.val (.int p1), .val (.int p2), .val (.int p3), .val (.int p4), .val (.int p5), .val (.int p6), .val (.ref b1), .val (.int ((p5 &&& (2147483647 : Int32)) % (5 : Int32))), .unset, .unset, .unset, .unset, .unset, .unset, .unset, .unset, .unset, .unset, .unset, .unset] [(.int p6)]))
  refine Goes.pre (X5.ldcInt hx hown (mvT hZ (hw _ (List.mem_of_getElem? (i := 1) rfl))) (g := (mkF m 36 #[.val (.int p1), .val (.int p2), .val (.int p3), .val (.int p4), .val (.int p5), .val (.int p6), .val (.ref b1), .val (.int ((p5 &&& (2147483647 : Int32)) % (5 : Int32))), .unset, .unset, .unset, .unset, .unset, .unset, .unset, .unset, .unset, .unset, .unset, .unset] [(.int p6)])) rfl (hb hby at_36)) ?_
  show Goes p e below s _ _ _ (T5.setTop (mkF m 38 #[.val (.int p1), .val (.int p2), .val (.int p3), .val (.int p4), .val (.int p5), .val (.int p6), .val (.ref b1), .val (.int ((p5 &&& (2147483647 : Int32)) % (5 : Int32))), .unset, .unset, .unset, .unset, .unset, .unset, .unset, .unset, .unset, .unset, .unset, .unset] [(.int (2147483647 : Int32)), (.int p6)]))
  refine Goes.pre (fun t kt => XS.iand X5.here hx rfl (hb hby at_38) rfl kt) ?_
  show Goes p e below s _ _ _ (T5.setTop (mkF m 39 #[.val (.int p1), .val (.int p2), .val (.int p3), .val (.int p4), .val (.int p5), .val (.int p6), .val (.ref b1), .val (.int ((p5 &&& (2147483647 : Int32)) % (5 : Int32))), .unset, .unset, .unset, .unset, .unset, .unset, .unset, .unset, .unset, .unset, .unset, .unset] [(.int (p6 &&& (2147483647 : Int32)))]))
  refine Goes.pre (fun t kt => XS.iconst X5.here hx rfl (hb hby at_39) kt) ?_
  show Goes p e below s _ _ _ (T5.setTop (mkF m 40 #[.val (.int p1), .val (.int p2), .val (.int p3), .val (.int p4), .val (.int p5), .val (.int p6), .val (.ref b1), .val (.int ((p5 &&& (2147483647 : Int32)) % (5 : Int32))), .unset, .unset, .unset, .unset, .unset, .unset, .unset, .unset, .unset, .unset, .unset, .unset] [(.int (5 : Int32)), (.int (p6 &&& (2147483647 : Int32)))]))
  refine Goes.pre (fun t kt => Jvm.RoadKit.iremM X5 hx rfl (hb hby at_40) rfl (by decide) kt) ?_
  show Goes p e below s _ _ _ (T5.setTop (mkF m 41 #[.val (.int p1), .val (.int p2), .val (.int p3), .val (.int p4), .val (.int p5), .val (.int p6), .val (.ref b1), .val (.int ((p5 &&& (2147483647 : Int32)) % (5 : Int32))), .unset, .unset, .unset, .unset, .unset, .unset, .unset, .unset, .unset, .unset, .unset, .unset] [(.int ((p6 &&& (2147483647 : Int32)) % (5 : Int32)))]))
  refine Goes.pre (fun t kt => XS.istore X5.here hx rfl (hb hby at_41) rfl (l' := #[.val (.int p1), .val (.int p2), .val (.int p3), .val (.int p4), .val (.int p5), .val (.int p6), .val (.ref b1), .val (.int ((p5 &&& (2147483647 : Int32)) % (5 : Int32))), .val (.int ((p6 &&& (2147483647 : Int32)) % (5 : Int32))), .unset, .unset, .unset, .unset, .unset, .unset, .unset, .unset, .unset, .unset, .unset]) rfl kt) ?_
  show Goes p e below s _ _ _ (T5.setTop (mkF m 43 #[.val (.int p1), .val (.int p2), .val (.int p3), .val (.int p4), .val (.int p5), .val (.int p6), .val (.ref b1), .val (.int ((p5 &&& (2147483647 : Int32)) % (5 : Int32))), .val (.int ((p6 &&& (2147483647 : Int32)) % (5 : Int32))), .unset, .unset, .unset, .unset, .unset, .unset, .unset, .unset, .unset, .unset, .unset] []))
  refine Goes.pre (fun t kt => XS.iload X5.here hx rfl (hb hby at_43) rfl kt) ?_
  show Goes p e below s _ _ _ (T5.setTop (mkF m 45 #[.val (.int p1), .val (.int p2), .val (.int p3), .val (.int p4), .val (.int p5), .val (.int p6), .val (.ref b1), .val (.int ((p5 &&& (2147483647 : Int32)) % (5 : Int32))), .val (.int ((p6 &&& (2147483647 : Int32)) % (5 : Int32))), .unset, .unset, .unset, .unset, .unset, .unset, .unset, .unset, .unset, .unset, .unset] [(.int ((p5 &&& (2147483647 : Int32)) % (5 : Int32)))]))
  refine Goes.pre (fun t kt => XS.iload X5.here hx rfl (hb hby at_45) rfl kt) ?_
  show Goes p e below s _ _ _ (T5.setTop (mkF m 47 #[.val (.int p1), .val (.int p2), .val (.int p3), .val (.int p4), .val (.int p5), .val (.int p6), .val (.ref b1), .val (.int ((p5 &&& (2147483647 : Int32)) % (5 : Int32))), .val (.int ((p6 &&& (2147483647 : Int32)) % (5 : Int32))), .unset, .unset, .unset, .unset, .unset, .unset, .unset, .unset, .unset, .unset, .unset] [(.int ((p6 &&& (2147483647 : Int32)) % (5 : Int32))), (.int ((p5 &&& (2147483647 : Int32)) % (5 : Int32)))]))
  obtain ⟨_, _, ⟨T6, L6, k6, n6⟩, -, X6, ⟨Lc6, hQ6, l6, y6, z6⟩, st6⟩ := Jvm.LawKit.callS X5 hx (y := (⟨"java/lang/Math", "min", "(II)I"⟩ : MethodName)) hown (mvT hZ (hw _ (List.mem_of_getElem? (i := 2) rfl))) (mvT hZ (hw _ (List.mem_of_getElem? (i := 3) rfl))) (mvT hZ (hw _ (List.mem_of_getElem? (i := 4) rfl))) (mvT hZ (hw _ (List.mem_of_getElem? (i := 5) rfl))) (by decide) (backOf (W := 0) (rm1 l Z a0 hw [] ((p5 &&& (2147483647 : Int32)) % (5 : Int32)) ((p6 &&& (2147483647 : Int32)) % (5 : Int32)) h5 n0 Z5 ) hZ (hw _ (List.mem_of_getElem? (i := 5) rfl)) (hw _ (List.mem_of_getElem? (i := 4) rfl)) (by decide) (by decide)) (g := (mkF m 47 #[.val (.int p1), .val (.int p2), .val (.int p3), .val (.int p4), .val (.int p5), .val (.int p6), .val (.ref b1), .val (.int ((p5 &&& (2147483647 : Int32)) % (5 : Int32))), .val (.int ((p6 &&& (2147483647 : Int32)) % (5 : Int32))), .unset, .unset, .unset, .unset, .unset, .unset, .unset, .unset, .unset, .unset, .unset] [(.int ((p6 &&& (2147483647 : Int32)) % (5 : Int32))), (.int ((p5 &&& (2147483647 : Int32)) % (5 : Int32)))])) rfl (by rw [hml]; rfl) (argsL := [(.int ((p5 &&& (2147483647 : Int32)) % (5 : Int32))), (.int ((p6 &&& (2147483647 : Int32)) % (5 : Int32)))]) (rest := []) (lenOf pd_8 rfl) rfl (by show 2 * 0 + _ ≤ _; exact Nat.le_of_eq rfl) (hb hby at_47) (fun _ _ => ⟨rfl, e5, (by decide : 1 + 0 ≤ _), (by decide : 4 + 0 ≤ _)⟩)
  dsimp only [Pt.U, Pt.locs, Pt.cells, Pt.slots] at X6 l6 y6 z6 st6 hQ6
  rw [l6, y6, z6] at X6
  obtain ⟨rfl, Nq6, eq6⟩ := hQ6
  refine Goes.pre st6 ?_
  have N6 := Fr.app N5 Nq6
  show Goes p e below s _ _ _ (T6.setTop (mkF m 50 #[.val (.int p1), .val (.int p2), .val (.int p3), .val (.int p4), .val (.int p5), .val (.int p6), .val (.ref b1), .val (.int ((p5 &&& (2147483647 : Int32)) % (5 : Int32))), .val (.int ((p6 &&& (2147483647 : Int32)) % (5 : Int32))), .unset, .unset, .unset, .unset, .unset, .unset, .unset, .unset, .unset, .unset, .unset] [(.int (own_min ((p5 &&& (2147483647 : Int32)) % (5 : Int32)) ((p6 &&& (2147483647 : Int32)) % (5 : Int32))))]))
  refine Goes.pre (fun t kt => XS.istore X6.here hx rfl (hb hby at_50) rfl (l' := #[.val (.int p1), .val (.int p2), .val (.int p3), .val (.int p4), .val (.int p5), .val (.int p6), .val (.ref b1), .val (.int ((p5 &&& (2147483647 : Int32)) % (5 : Int32))), .val (.int ((p6 &&& (2147483647 : Int32)) % (5 : Int32))), .val (.int (own_min ((p5 &&& (2147483647 : Int32)) % (5 : Int32)) ((p6 &&& (2147483647 : Int32)) % (5 : Int32)))), .unset, .unset, .unset, .unset, .unset, .unset, .unset, .unset, .unset, .unset]) rfl kt) ?_
  show Goes p e below s _ _ _ (T6.setTop (mkF m 52 #[.val (.int p1), .val (.int p2), .val (.int p3), .val (.int p4), .val (.int p5), .val (.int p6), .val (.ref b1), .val (.int ((p5 &&& (2147483647 : Int32)) % (5 : Int32))), .val (.int ((p6 &&& (2147483647 : Int32)) % (5 : Int32))), .val (.int (own_min ((p5 &&& (2147483647 : Int32)) % (5 : Int32)) ((p6 &&& (2147483647 : Int32)) % (5 : Int32)))), .unset, .unset, .unset, .unset, .unset, .unset, .unset, .unset, .unset, .unset] []))
  refine Goes.pre (fun t kt => XS.iload X6.here hx rfl (hb hby at_52) rfl kt) ?_
  show Goes p e below s _ _ _ (T6.setTop (mkF m 54 #[.val (.int p1), .val (.int p2), .val (.int p3), .val (.int p4), .val (.int p5), .val (.int p6), .val (.ref b1), .val (.int ((p5 &&& (2147483647 : Int32)) % (5 : Int32))), .val (.int ((p6 &&& (2147483647 : Int32)) % (5 : Int32))), .val (.int (own_min ((p5 &&& (2147483647 : Int32)) % (5 : Int32)) ((p6 &&& (2147483647 : Int32)) % (5 : Int32)))), .unset, .unset, .unset, .unset, .unset, .unset, .unset, .unset, .unset, .unset] [(.int ((p5 &&& (2147483647 : Int32)) % (5 : Int32)))]))
  refine Goes.pre (fun t kt => XS.iload X6.here hx rfl (hb hby at_54) rfl kt) ?_
  show Goes p e below s _ _ _ (T6.setTop (mkF m 56 #[.val (.int p1), .val (.int p2), .val (.int p3), .val (.int p4), .val (.int p5), .val (.int p6), .val (.ref b1), .val (.int ((p5 &&& (2147483647 : Int32)) % (5 : Int32))), .val (.int ((p6 &&& (2147483647 : Int32)) % (5 : Int32))), .val (.int (own_min ((p5 &&& (2147483647 : Int32)) % (5 : Int32)) ((p6 &&& (2147483647 : Int32)) % (5 : Int32)))), .unset, .unset, .unset, .unset, .unset, .unset, .unset, .unset, .unset, .unset] [(.int ((p6 &&& (2147483647 : Int32)) % (5 : Int32))), (.int ((p5 &&& (2147483647 : Int32)) % (5 : Int32)))]))
  obtain ⟨_, _, ⟨T7, L7, k7, n7⟩, -, X7, ⟨Lc7, hQ7, l7, y7, z7⟩, st7⟩ := Jvm.LawKit.callS X6 hx (y := (⟨"java/lang/Math", "max", "(II)I"⟩ : MethodName)) hown (mvT hZ (hw _ (List.mem_of_getElem? (i := 6) rfl))) (mvT hZ (hw _ (List.mem_of_getElem? (i := 7) rfl))) (mvT hZ (hw _ (List.mem_of_getElem? (i := 4) rfl))) (mvT hZ (hw _ (List.mem_of_getElem? (i := 8) rfl))) (by decide) (backOf (W := 0) (rm2 l Z a0 hw [] ((p5 &&& (2147483647 : Int32)) % (5 : Int32)) ((p6 &&& (2147483647 : Int32)) % (5 : Int32)) h5 n0 Z5 ) hZ (hw _ (List.mem_of_getElem? (i := 8) rfl)) (hw _ (List.mem_of_getElem? (i := 4) rfl)) (by decide) (by decide)) (g := (mkF m 56 #[.val (.int p1), .val (.int p2), .val (.int p3), .val (.int p4), .val (.int p5), .val (.int p6), .val (.ref b1), .val (.int ((p5 &&& (2147483647 : Int32)) % (5 : Int32))), .val (.int ((p6 &&& (2147483647 : Int32)) % (5 : Int32))), .val (.int (own_min ((p5 &&& (2147483647 : Int32)) % (5 : Int32)) ((p6 &&& (2147483647 : Int32)) % (5 : Int32)))), .unset, .unset, .unset, .unset, .unset, .unset, .unset, .unset, .unset, .unset] [(.int ((p6 &&& (2147483647 : Int32)) % (5 : Int32))), (.int ((p5 &&& (2147483647 : Int32)) % (5 : Int32)))])) rfl (by rw [hml]; rfl) (argsL := [(.int ((p5 &&& (2147483647 : Int32)) % (5 : Int32))), (.int ((p6 &&& (2147483647 : Int32)) % (5 : Int32)))]) (rest := []) (lenOf pd_8 rfl) rfl (by show 2 * 0 + _ ≤ _; exact Nat.le_of_eq rfl) (hb hby at_56) (fun _ _ => ⟨rfl, eq6, (by decide : 1 + 0 ≤ _), (by decide : 4 + 0 ≤ _)⟩)
  dsimp only [Pt.U, Pt.locs, Pt.cells, Pt.slots] at X7 l7 y7 z7 st7 hQ7
  rw [l7, y7, z7] at X7
  obtain ⟨rfl, Nq7, eq7⟩ := hQ7
  refine Goes.pre st7 ?_
  have N7 := Fr.app N6 Nq7
  show Goes p e below s _ _ _ (T7.setTop (mkF m 59 #[.val (.int p1), .val (.int p2), .val (.int p3), .val (.int p4), .val (.int p5), .val (.int p6), .val (.ref b1), .val (.int ((p5 &&& (2147483647 : Int32)) % (5 : Int32))), .val (.int ((p6 &&& (2147483647 : Int32)) % (5 : Int32))), .val (.int (own_min ((p5 &&& (2147483647 : Int32)) % (5 : Int32)) ((p6 &&& (2147483647 : Int32)) % (5 : Int32)))), .unset, .unset, .unset, .unset, .unset, .unset, .unset, .unset, .unset, .unset] [(.int (own_max ((p5 &&& (2147483647 : Int32)) % (5 : Int32)) ((p6 &&& (2147483647 : Int32)) % (5 : Int32))))]))
  refine Goes.pre (fun t kt => XS.istore X7.here hx rfl (hb hby at_59) rfl (l' := #[.val (.int p1), .val (.int p2), .val (.int p3), .val (.int p4), .val (.int p5), .val (.int p6), .val (.ref b1), .val (.int ((p5 &&& (2147483647 : Int32)) % (5 : Int32))), .val (.int ((p6 &&& (2147483647 : Int32)) % (5 : Int32))), .val (.int (own_min ((p5 &&& (2147483647 : Int32)) % (5 : Int32)) ((p6 &&& (2147483647 : Int32)) % (5 : Int32)))), .val (.int (own_max ((p5 &&& (2147483647 : Int32)) % (5 : Int32)) ((p6 &&& (2147483647 : Int32)) % (5 : Int32)))), .unset, .unset, .unset, .unset, .unset, .unset, .unset, .unset, .unset]) rfl kt) ?_
  show Goes p e below s _ _ _ (T7.setTop (mkF m 61 #[.val (.int p1), .val (.int p2), .val (.int p3), .val (.int p4), .val (.int p5), .val (.int p6), .val (.ref b1), .val (.int ((p5 &&& (2147483647 : Int32)) % (5 : Int32))), .val (.int ((p6 &&& (2147483647 : Int32)) % (5 : Int32))), .val (.int (own_min ((p5 &&& (2147483647 : Int32)) % (5 : Int32)) ((p6 &&& (2147483647 : Int32)) % (5 : Int32)))), .val (.int (own_max ((p5 &&& (2147483647 : Int32)) % (5 : Int32)) ((p6 &&& (2147483647 : Int32)) % (5 : Int32)))), .unset, .unset, .unset, .unset, .unset, .unset, .unset, .unset, .unset] []))
  obtain ⟨T8, h8, X8, e8, E8, A8, D8, U8, st8⟩ := newO X7 hx hZ hown (hw _ (List.mem_of_getElem? (i := 9) rfl)) (hw _ (List.mem_of_getElem? (i := 10) rfl)) (hw _ (List.mem_of_getElem? (i := 11) rfl)) eq7 (g := (mkF m 61 #[.val (.int p1), .val (.int p2), .val (.int p3), .val (.int p4), .val (.int p5), .val (.int p6), .val (.ref b1), .val (.int ((p5 &&& (2147483647 : Int32)) % (5 : Int32))), .val (.int ((p6 &&& (2147483647 : Int32)) % (5 : Int32))), .val (.int (own_min ((p5 &&& (2147483647 : Int32)) % (5 : Int32)) ((p6 &&& (2147483647 : Int32)) % (5 : Int32)))), .val (.int (own_max ((p5 &&& (2147483647 : Int32)) % (5 : Int32)) ((p6 &&& (2147483647 : Int32)) % (5 : Int32)))), .unset, .unset, .unset, .unset, .unset, .unset, .unset, .unset, .unset] [])) rfl (hb hby at_61) (by decide) (by decide)
  obtain ⟨b8, g8⟩ : ∃ z, z = h5.size := ⟨_, rfl⟩
  rw [← g8] at A8 D8 U8 st8
  have ltb1_8 : b1 < b8 := Nat.lt_of_lt_of_le V5.lt (Nat.le_of_eq g8.symm)
  have gg8 : n0 ≤ b8 := Nat.le_trans Z5 (Nat.le_of_eq g8.symm)
  have Z8 : n0 ≤ h8.size := Nat.le_trans Z5 E8.1
  refine Goes.pre st8 ?_
  have Fn8_24 : Fld Z h8 b8 "com/example/quantail/quantail/NumberArray" "items" "[D" .null := D8 (Or.inl (hw _ (List.mem_of_getElem? (i := 24) rfl))) (ty := (.array .double)) (by decide)
  show Goes p e below s _ _ _ (T8.setTop (mkF m 64 #[.val (.int p1), .val (.int p2), .val (.int p3), .val (.int p4), .val (.int p5), .val (.int p6), .val (.ref b1), .val (.int ((p5 &&& (2147483647 : Int32)) % (5 : Int32))), .val (.int ((p6 &&& (2147483647 : Int32)) % (5 : Int32))), .val (.int (own_min ((p5 &&& (2147483647 : Int32)) % (5 : Int32)) ((p6 &&& (2147483647 : Int32)) % (5 : Int32)))), .val (.int (own_max ((p5 &&& (2147483647 : Int32)) % (5 : Int32)) ((p6 &&& (2147483647 : Int32)) % (5 : Int32)))), .unset, .unset, .unset, .unset, .unset, .unset, .unset, .unset, .unset] [(.ref b8)]))
  refine Goes.pre (fun t kt => XS.dup X8.here hx rfl (hb hby at_64) rfl rfl kt) ?_
  show Goes p e below s _ _ _ (T8.setTop (mkF m 65 #[.val (.int p1), .val (.int p2), .val (.int p3), .val (.int p4), .val (.int p5), .val (.int p6), .val (.ref b1), .val (.int ((p5 &&& (2147483647 : Int32)) % (5 : Int32))), .val (.int ((p6 &&& (2147483647 : Int32)) % (5 : Int32))), .val (.int (own_min ((p5 &&& (2147483647 : Int32)) % (5 : Int32)) ((p6 &&& (2147483647 : Int32)) % (5 : Int32)))), .val (.int (own_max ((p5 &&& (2147483647 : Int32)) % (5 : Int32)) ((p6 &&& (2147483647 : Int32)) % (5 : Int32)))), .unset, .unset, .unset, .unset, .unset, .unset, .unset, .unset, .unset] [(.ref b8), (.ref b8)]))
  refine Goes.pre (fun t kt => XS.iconst X8.here hx rfl (hb hby at_65) kt) ?_
  show Goes p e below s _ _ _ (T8.setTop (mkF m 66 #[.val (.int p1), .val (.int p2), .val (.int p3), .val (.int p4), .val (.int p5), .val (.int p6), .val (.ref b1), .val (.int ((p5 &&& (2147483647 : Int32)) % (5 : Int32))), .val (.int ((p6 &&& (2147483647 : Int32)) % (5 : Int32))), .val (.int (own_min ((p5 &&& (2147483647 : Int32)) % (5 : Int32)) ((p6 &&& (2147483647 : Int32)) % (5 : Int32)))), .val (.int (own_max ((p5 &&& (2147483647 : Int32)) % (5 : Int32)) ((p6 &&& (2147483647 : Int32)) % (5 : Int32)))), .unset, .unset, .unset, .unset, .unset, .unset, .unset, .unset, .unset] [(.int (4 : Int32)), (.ref b8), (.ref b8)]))
  obtain ⟨_, _, ⟨T9, L9, k9, n9⟩, -, X9, ⟨Lc9, hQ9, l9, y9, z9⟩, st9⟩ := X8.specialBack hx (y := (⟨"com/example/quantail/quantail/NumberArray", "<init>", "(I)V"⟩ : MethodName)) rfl hown (mvT hZ (hw _ (List.mem_of_getElem? (i := 12) rfl))) (mvT hZ (hw _ (List.mem_of_getElem? (i := 13) rfl))) (mvT hZ (hw _ (List.mem_of_getElem? (i := 14) rfl))) (by decide) (backOf (W := 1) (rm3 l Z a0 hw [] b8 h8 n0 Z8 A8 gg8 Fn8_24) hZ (hw _ (List.mem_of_getElem? (i := 14) rfl)) (hw _ (List.mem_of_getElem? (i := 11) rfl)) (by decide) (by decide)) (g := (mkF m 66 #[.val (.int p1), .val (.int p2), .val (.int p3), .val (.int p4), .val (.int p5), .val (.int p6), .val (.ref b1), .val (.int ((p5 &&& (2147483647 : Int32)) % (5 : Int32))), .val (.int ((p6 &&& (2147483647 : Int32)) % (5 : Int32))), .val (.int (own_min ((p5 &&& (2147483647 : Int32)) % (5 : Int32)) ((p6 &&& (2147483647 : Int32)) % (5 : Int32)))), .val (.int (own_max ((p5 &&& (2147483647 : Int32)) % (5 : Int32)) ((p6 &&& (2147483647 : Int32)) % (5 : Int32)))), .unset, .unset, .unset, .unset, .unset, .unset, .unset, .unset, .unset] [(.int (4 : Int32)), (.ref b8), (.ref b8)])) rfl (by rw [hml]; rfl) (Steps.refl _) (a := b8) (argsL := [(.int (4 : Int32))]) (rest := [(.ref b8)]) (lenOf pd_9 rfl) rfl (by show 2 * 0 + _ ≤ _; exact Nat.le_of_eq rfl) (hb hby at_66) (fun _ _ => ⟨rfl, e8, (by decide : 2 + 1 ≤ _), (by decide : 5 + 4 ≤ _)⟩)
  dsimp only [Pt.U, Pt.locs, Pt.cells, Pt.slots] at X9 l9 y9 z9 st9 hQ9
  rw [l9, y9, z9] at X9
  obtain ⟨it_9, kd_9, rfl, Nq9, Kq9, pq9_0, pq9_1, pq9_2, pq9_3⟩ := hQ9
  refine Goes.run st9 ?_
  have N9 := Fr.app N7 Nq9
  obtain ⟨h9, e9⟩ : ∃ z, T9.heap = z := ⟨_, rfl⟩
  rw [e9] at Kq9 pq9_2 pq9_3
  have fc10 : Arv Z h8 b1 k1 .double (4 : Int32) [(.double (FP.l2d p1.toInt64)), (.double (FP.l2d p2.toInt64)), (.double (FP.l2d p3.toInt64)), (.double (FP.l2d p4.toInt64))] (.double (0 : UInt64)) := (V5.ext E8)
  have ltb1_9_it_9 : b1 < it_9 := Nat.lt_of_lt_of_le fc10.lt pq9_0
  have ltb8_9_it_9 : b8 < it_9 := Nat.lt_of_lt_of_le A8.lt pq9_0
  have Z9 : n0 ≤ h9.size := Nat.le_trans Z8 Kq9.1
  show Goes p e below s _ _ _ (T9.setTop (mkF m 69 #[.val (.int p1), .val (.int p2), .val (.int p3), .val (.int p4), .val (.int p5), .val (.int p6), .val (.ref b1), .val (.int ((p5 &&& (2147483647 : Int32)) % (5 : Int32))), .val (.int ((p6 &&& (2147483647 : Int32)) % (5 : Int32))), .val (.int (own_min ((p5 &&& (2147483647 : Int32)) % (5 : Int32)) ((p6 &&& (2147483647 : Int32)) % (5 : Int32)))), .val (.int (own_max ((p5 &&& (2147483647 : Int32)) % (5 : Int32)) ((p6 &&& (2147483647 : Int32)) % (5 : Int32)))), .unset, .unset, .unset, .unset, .unset, .unset, .unset, .unset, .unset] [(.ref b8)]))
  refine Goes.pre (fun t kt => XS.astore X9.here hx rfl (hb hby at_69) rfl rfl (l' := #[.val (.int p1), .val (.int p2), .val (.int p3), .val (.int p4), .val (.int p5), .val (.int p6), .val (.ref b1), .val (.int ((p5 &&& (2147483647 : Int32)) % (5 : Int32))), .val (.int ((p6 &&& (2147483647 : Int32)) % (5 : Int32))), .val (.int (own_min ((p5 &&& (2147483647 : Int32)) % (5 : Int32)) ((p6 &&& (2147483647 : Int32)) % (5 : Int32)))), .val (.int (own_max ((p5 &&& (2147483647 : Int32)) % (5 : Int32)) ((p6 &&& (2147483647 : Int32)) % (5 : Int32)))), .val (.ref b8), .unset, .unset, .unset, .unset, .unset, .unset, .unset, .unset]) rfl kt) ?_
  show Goes p e below s _ _ _ (T9.setTop (mkF m 71 #[.val (.int p1), .val (.int p2), .val (.int p3), .val (.int p4), .val (.int p5), .val (.int p6), .val (.ref b1), .val (.int ((p5 &&& (2147483647 : Int32)) % (5 : Int32))), .val (.int ((p6 &&& (2147483647 : Int32)) % (5 : Int32))), .val (.int (own_min ((p5 &&& (2147483647 : Int32)) % (5 : Int32)) ((p6 &&& (2147483647 : Int32)) % (5 : Int32)))), .val (.int (own_max ((p5 &&& (2147483647 : Int32)) % (5 : Int32)) ((p6 &&& (2147483647 : Int32)) % (5 : Int32)))), .val (.ref b8), .unset, .unset, .unset, .unset, .unset, .unset, .unset, .unset] []))
  refine Goes.pre (fun t kt => XS.aload X9.here hx rfl (hb hby at_71) rfl rfl kt) ?_
  show Goes p e below s _ _ _ (T9.setTop (mkF m 73 #[.val (.int p1), .val (.int p2), .val (.int p3), .val (.int p4), .val (.int p5), .val (.int p6), .val (.ref b1), .val (.int ((p5 &&& (2147483647 : Int32)) % (5 : Int32))), .val (.int ((p6 &&& (2147483647 : Int32)) % (5 : Int32))), .val (.int (own_min ((p5 &&& (2147483647 : Int32)) % (5 : Int32)) ((p6 &&& (2147483647 : Int32)) % (5 : Int32)))), .val (.int (own_max ((p5 &&& (2147483647 : Int32)) % (5 : Int32)) ((p6 &&& (2147483647 : Int32)) % (5 : Int32)))), .val (.ref b8), .unset, .unset, .unset, .unset, .unset, .unset, .unset, .unset] [(.ref b8)]))
  refine Goes.pre (fun t kt => XS.iconst X9.here hx rfl (hb hby at_73) kt) ?_
  show Goes p e below s _ _ _ (T9.setTop (mkF m 74 #[.val (.int p1), .val (.int p2), .val (.int p3), .val (.int p4), .val (.int p5), .val (.int p6), .val (.ref b1), .val (.int ((p5 &&& (2147483647 : Int32)) % (5 : Int32))), .val (.int ((p6 &&& (2147483647 : Int32)) % (5 : Int32))), .val (.int (own_min ((p5 &&& (2147483647 : Int32)) % (5 : Int32)) ((p6 &&& (2147483647 : Int32)) % (5 : Int32)))), .val (.int (own_max ((p5 &&& (2147483647 : Int32)) % (5 : Int32)) ((p6 &&& (2147483647 : Int32)) % (5 : Int32)))), .val (.ref b8), .unset, .unset, .unset, .unset, .unset, .unset, .unset, .unset] [(.int (0 : Int32)), (.ref b8)]))
  refine Goes.pre (fun t kt => XS.aload X9.here hx rfl (hb hby at_74) rfl rfl kt) ?_
  show Goes p e below s _ _ _ (T9.setTop (mkF m 76 #[.val (.int p1), .val (.int p2), .val (.int p3), .val (.int p4), .val (.int p5), .val (.int p6), .val (.ref b1), .val (.int ((p5 &&& (2147483647 : Int32)) % (5 : Int32))), .val (.int ((p6 &&& (2147483647 : Int32)) % (5 : Int32))), .val (.int (own_min ((p5 &&& (2147483647 : Int32)) % (5 : Int32)) ((p6 &&& (2147483647 : Int32)) % (5 : Int32)))), .val (.int (own_max ((p5 &&& (2147483647 : Int32)) % (5 : Int32)) ((p6 &&& (2147483647 : Int32)) % (5 : Int32)))), .val (.ref b8), .unset, .unset, .unset, .unset, .unset, .unset, .unset, .unset] [(.ref b1), (.int (0 : Int32)), (.ref b8)]))
  refine Goes.pre (fun t kt => XS.iconst X9.here hx rfl (hb hby at_76) kt) ?_
  show Goes p e below s _ _ _ (T9.setTop (mkF m 77 #[.val (.int p1), .val (.int p2), .val (.int p3), .val (.int p4), .val (.int p5), .val (.int p6), .val (.ref b1), .val (.int ((p5 &&& (2147483647 : Int32)) % (5 : Int32))), .val (.int ((p6 &&& (2147483647 : Int32)) % (5 : Int32))), .val (.int (own_min ((p5 &&& (2147483647 : Int32)) % (5 : Int32)) ((p6 &&& (2147483647 : Int32)) % (5 : Int32)))), .val (.int (own_max ((p5 &&& (2147483647 : Int32)) % (5 : Int32)) ((p6 &&& (2147483647 : Int32)) % (5 : Int32)))), .val (.ref b8), .unset, .unset, .unset, .unset, .unset, .unset, .unset, .unset] [(.int (0 : Int32)), (.ref b1), (.int (0 : Int32)), (.ref b8)]))
  have fc11 : Arv Z h9 b1 k1 .double (4 : Int32) [(.double (FP.l2d p1.toInt64)), (.double (FP.l2d p2.toInt64)), (.double (FP.l2d p3.toInt64)), (.double (FP.l2d p4.toInt64))] (.double (0 : UInt64)) := (fc10.keep Kq9 (ninS (Nat.ne_of_lt ltb1_8) nin0))
  obtain ⟨cl12, Ar12, aq12, aS12, aN12, aH12, aG12⟩ := fc11
  have V12 : Arv Z h9 b1 k1 .double (4 : Int32) [(.double (FP.l2d p1.toInt64)), (.double (FP.l2d p2.toInt64)), (.double (FP.l2d p3.toInt64)), (.double (FP.l2d p4.toInt64))] (.double (0 : UInt64)) := ⟨cl12, Ar12, aq12, aS12, aN12, aH12, aG12⟩
  have hin12 : ¬ ((0 : Int32) < 0 ∨ cl12.slots.size ≤ ((0 : Int32)).toNatClampNeg) := inb_of aS12 ⟨by decide, by decide⟩
  have hat12 : cl12.slots[((0 : Int32)).toNatClampNeg]? = some (.double (FP.l2d p1.toInt64)) := aH12.at hin12 rfl
  refine Goes.pre (X9.daload hx (j := (0 : Int32)) (v := (.double (FP.l2d p1.toInt64))) (by rw [e9]; exact Ar12.1) (State.isArrayOf_alike hZ.alike Ar12.2.1) Ar12.2.2 hin12 hat12 (g := (mkF m 77 #[.val (.int p1), .val (.int p2), .val (.int p3), .val (.int p4), .val (.int p5), .val (.int p6), .val (.ref b1), .val (.int ((p5 &&& (2147483647 : Int32)) % (5 : Int32))), .val (.int ((p6 &&& (2147483647 : Int32)) % (5 : Int32))), .val (.int (own_min ((p5 &&& (2147483647 : Int32)) % (5 : Int32)) ((p6 &&& (2147483647 : Int32)) % (5 : Int32)))), .val (.int (own_max ((p5 &&& (2147483647 : Int32)) % (5 : Int32)) ((p6 &&& (2147483647 : Int32)) % (5 : Int32)))), .val (.ref b8), .unset, .unset, .unset, .unset, .unset, .unset, .unset, .unset] [(.int (0 : Int32)), (.ref b1), (.int (0 : Int32)), (.ref b8)])) rfl rfl (hb hby at_77)) ?_
  show Goes p e below s _ _ _ (T9.setTop (mkF m 78 #[.val (.int p1), .val (.int p2), .val (.int p3), .val (.int p4), .val (.int p5), .val (.int p6), .val (.ref b1), .val (.int ((p5 &&& (2147483647 : Int32)) % (5 : Int32))), .val (.int ((p6 &&& (2147483647 : Int32)) % (5 : Int32))), .val (.int (own_min ((p5 &&& (2147483647 : Int32)) % (5 : Int32)) ((p6 &&& (2147483647 : Int32)) % (5 : Int32)))), .val (.int (own_max ((p5 &&& (2147483647 : Int32)) % (5 : Int32)) ((p6 &&& (2147483647 : Int32)) % (5 : Int32)))), .val (.ref b8), .unset, .unset, .unset, .unset, .unset, .unset, .unset, .unset] [(.double (FP.l2d p1.toInt64)), (.int (0 : Int32)), (.ref b8)]))
  have fc15 : Exa Z h9 b8 "com/example/quantail/quantail/NumberArray" := (A8.keep Kq9)
  obtain ⟨cq14, kq14, qa14, qb14, qc14⟩ := isOf hZ e9 fc15
  obtain ⟨_, _, ⟨T13, L13, k13, n13⟩, -, X13, ⟨Lc13, hQ13, l13, y13, z13⟩, st13⟩ := X9.virtualBack hx (y := (⟨"com/example/quantail/quantail/NumberArray", "setNumber", "(ID)V"⟩ : MethodName)) (z := (⟨"com/example/quantail/quantail/NumberArray", "setNumber", "(ID)V"⟩ : MethodName)) hown (mvT hZ (hw _ (List.mem_of_getElem? (i := 25) rfl))) (mvT hZ (hw _ (List.mem_of_getElem? (i := 26) rfl))) (notFace_of_selects (args := #[]) (mvT hZ (hw _ (List.mem_of_getElem? (i := 28) rfl)))) (mvT hZ (hw _ (List.mem_of_getElem? (i := 28) rfl))) (mvT hZ (hw _ (List.mem_of_getElem? (i := 27) rfl))) (by decide) (backOf (W := 0) (rm6_0 l Z a0 hw [] b8 (FP.l2d p1.toInt64) it_9 kd_9 (0 : UInt64) (0 : UInt64) (0 : UInt64) (0 : UInt64) h9 n0 Z9 pq9_2 pq9_3 pq9_1) hZ (hw _ (List.mem_of_getElem? (i := 29) rfl)) (hw _ (List.mem_of_getElem? (i := 11) rfl)) (by decide) (by decide)) qa14 qc14 (g := (mkF m 78 #[.val (.int p1), .val (.int p2), .val (.int p3), .val (.int p4), .val (.int p5), .val (.int p6), .val (.ref b1), .val (.int ((p5 &&& (2147483647 : Int32)) % (5 : Int32))), .val (.int ((p6 &&& (2147483647 : Int32)) % (5 : Int32))), .val (.int (own_min ((p5 &&& (2147483647 : Int32)) % (5 : Int32)) ((p6 &&& (2147483647 : Int32)) % (5 : Int32)))), .val (.int (own_max ((p5 &&& (2147483647 : Int32)) % (5 : Int32)) ((p6 &&& (2147483647 : Int32)) % (5 : Int32)))), .val (.ref b8), .unset, .unset, .unset, .unset, .unset, .unset, .unset, .unset] [(.double (FP.l2d p1.toInt64)), (.int (0 : Int32)), (.ref b8)])) rfl (by rw [hml]; rfl) (Steps.refl _) (argsL := [(.int (0 : Int32)), (.double (FP.l2d p1.toInt64))]) (rest := []) (lenOf pd_10 rfl) rfl (by show 2 * 0 + _ ≤ _; exact Nat.le_of_eq rfl) (hb hby at_78) (fun _ _ => ⟨rfl, e9, (by decide : 3 + 0 ≤ _), (by decide : 9 + 0 ≤ _)⟩)
  dsimp only [Pt.U, Pt.locs, Pt.cells, Pt.slots] at X13 l13 y13 z13 st13 hQ13
  rw [l13, y13, z13] at X13
  obtain ⟨rfl, Nq13, Kq13, pq13_0⟩ := hQ13
  refine Goes.run st13 ?_
  have N13 := Fr.app N9 Nq13
  obtain ⟨h13, e13⟩ : ∃ z, T13.heap = z := ⟨_, rfl⟩
  rw [e13] at Kq13 pq13_0
  have Z13 : n0 ≤ h13.size := Nat.le_trans Z9 Kq13.1
  show Goes p e below s _ _ _ (T13.setTop (mkF m 81 #[.val (.int p1), .val (.int p2), .val (.int p3), .val (.int p4), .val (.int p5), .val (.int p6), .val (.ref b1), .val (.int ((p5 &&& (2147483647 : Int32)) % (5 : Int32))), .val (.int ((p6 &&& (2147483647 : Int32)) % (5 : Int32))), .val (.int (own_min ((p5 &&& (2147483647 : Int32)) % (5 : Int32)) ((p6 &&& (2147483647 : Int32)) % (5 : Int32)))), .val (.int (own_max ((p5 &&& (2147483647 : Int32)) % (5 : Int32)) ((p6 &&& (2147483647 : Int32)) % (5 : Int32)))), .val (.ref b8), .unset, .unset, .unset, .unset, .unset, .unset, .unset, .unset] []))
  refine Goes.pre (fun t kt => XS.aload X13.here hx rfl (hb hby at_81) rfl rfl kt) ?_
  show Goes p e below s _ _ _ (T13.setTop (mkF m 83 #[.val (.int p1), .val (.int p2), .val (.int p3), .val (.int p4), .val (.int p5), .val (.int p6), .val (.ref b1), .val (.int ((p5 &&& (2147483647 : Int32)) % (5 : Int32))), .val (.int ((p6 &&& (2147483647 : Int32)) % (5 : Int32))), .val (.int (own_min ((p5 &&& (2147483647 : Int32)) % (5 : Int32)) ((p6 &&& (2147483647 : Int32)) % (5 : Int32)))), .val (.int (own_max ((p5 &&& (2147483647 : Int32)) % (5 : Int32)) ((p6 &&& (2147483647 : Int32)) % (5 : Int32)))), .val (.ref b8), .unset, .unset, .unset, .unset, .unset, .unset, .unset, .unset] [(.ref b8)]))
  refine Goes.pre (fun t kt => XS.iconst X13.here hx rfl (hb hby at_83) kt) ?_
  show Goes p e below s _ _ _ (T13.setTop (mkF m 84 #[.val (.int p1), .val (.int p2), .val (.int p3), .val (.int p4), .val (.int p5), .val (.int p6), .val (.ref b1), .val (.int ((p5 &&& (2147483647 : Int32)) % (5 : Int32))), .val (.int ((p6 &&& (2147483647 : Int32)) % (5 : Int32))), .val (.int (own_min ((p5 &&& (2147483647 : Int32)) % (5 : Int32)) ((p6 &&& (2147483647 : Int32)) % (5 : Int32)))), .val (.int (own_max ((p5 &&& (2147483647 : Int32)) % (5 : Int32)) ((p6 &&& (2147483647 : Int32)) % (5 : Int32)))), .val (.ref b8), .unset, .unset, .unset, .unset, .unset, .unset, .unset, .unset] [(.int (1 : Int32)), (.ref b8)]))
  refine Goes.pre (fun t kt => XS.aload X13.here hx rfl (hb hby at_84) rfl rfl kt) ?_
  show Goes p e below s _ _ _ (T13.setTop (mkF m 86 #[.val (.int p1), .val (.int p2), .val (.int p3), .val (.int p4), .val (.int p5), .val (.int p6), .val (.ref b1), .val (.int ((p5 &&& (2147483647 : Int32)) % (5 : Int32))), .val (.int ((p6 &&& (2147483647 : Int32)) % (5 : Int32))), .val (.int (own_min ((p5 &&& (2147483647 : Int32)) % (5 : Int32)) ((p6 &&& (2147483647 : Int32)) % (5 : Int32)))), .val (.int (own_max ((p5 &&& (2147483647 : Int32)) % (5 : Int32)) ((p6 &&& (2147483647 : Int32)) % (5 : Int32)))), .val (.ref b8), .unset, .unset, .unset, .unset, .unset, .unset, .unset, .unset] [(.ref b1), (.int (1 : Int32)), (.ref b8)]))
  refine Goes.pre (fun t kt => XS.iconst X13.here hx rfl (hb hby at_86) kt) ?_
  show Goes p e below s _ _ _ (T13.setTop (mkF m 87 #[.val (.int p1), .val (.int p2), .val (.int p3), .val (.int p4), .val (.int p5), .val (.int p6), .val (.ref b1), .val (.int ((p5 &&& (2147483647 : Int32)) % (5 : Int32))), .val (.int ((p6 &&& (2147483647 : Int32)) % (5 : Int32))), .val (.int (own_min ((p5 &&& (2147483647 : Int32)) % (5 : Int32)) ((p6 &&& (2147483647 : Int32)) % (5 : Int32)))), .val (.int (own_max ((p5 &&& (2147483647 : Int32)) % (5 : Int32)) ((p6 &&& (2147483647 : Int32)) % (5 : Int32)))), .val (.ref b8), .unset, .unset, .unset, .unset, .unset, .unset, .unset, .unset] [(.int (1 : Int32)), (.ref b1), (.int (1 : Int32)), (.ref b8)]))
  have fc16 : Arv Z h13 b1 k1 .double (4 : Int32) [(.double (FP.l2d p1.toInt64)), (.double (FP.l2d p2.toInt64)), (.double (FP.l2d p3.toInt64)), (.double (FP.l2d p4.toInt64))] (.double (0 : UInt64)) := (V12.keep Kq13 (ninS (Nat.ne_of_lt ltb1_9_it_9) nin0))
  obtain ⟨cl17, Ar17, aq17, aS17, aN17, aH17, aG17⟩ := fc16
  have V17 : Arv Z h13 b1 k1 .double (4 : Int32) [(.double (FP.l2d p1.toInt64)), (.double (FP.l2d p2.toInt64)), (.double (FP.l2d p3.toInt64)), (.double (FP.l2d p4.toInt64))] (.double (0 : UInt64)) := ⟨cl17, Ar17, aq17, aS17, aN17, aH17, aG17⟩
  have hin17 : ¬ ((1 : Int32) < 0 ∨ cl17.slots.size ≤ ((1 : Int32)).toNatClampNeg) := inb_of aS17 ⟨by decide, by decide⟩
  have hat17 : cl17.slots[((1 : Int32)).toNatClampNeg]? = some (.double (FP.l2d p2.toInt64)) := aH17.at hin17 rfl
  refine Goes.pre (X13.daload hx (j := (1 : Int32)) (v := (.double (FP.l2d p2.toInt64))) (by rw [e13]; exact Ar17.1) (State.isArrayOf_alike hZ.alike Ar17.2.1) Ar17.2.2 hin17 hat17 (g := (mkF m 87 #[.val (.int p1), .val (.int p2), .val (.int p3), .val (.int p4), .val (.int p5), .val (.int p6), .val (.ref b1), .val (.int ((p5 &&& (2147483647 : Int32)) % (5 : Int32))), .val (.int ((p6 &&& (2147483647 : Int32)) % (5 : Int32))), .val (.int (own_min ((p5 &&& (2147483647 : Int32)) % (5 : Int32)) ((p6 &&& (2147483647 : Int32)) % (5 : Int32)))), .val (.int (own_max ((p5 &&& (2147483647 : Int32)) % (5 : Int32)) ((p6 &&& (2147483647 : Int32)) % (5 : Int32)))), .val (.ref b8), .unset, .unset, .unset, .unset, .unset, .unset, .unset, .unset] [(.int (1 : Int32)), (.ref b1), (.int (1 : Int32)), (.ref b8)])) rfl rfl (hb hby at_87)) ?_
  show Goes p e below s _ _ _ (T13.setTop (mkF m 88 #[.val (.int p1), .val (.int p2), .val (.int p3), .val (.int p4), .val (.int p5), .val (.int p6), .val (.ref b1), .val (.int ((p5 &&& (2147483647 : Int32)) % (5 : Int32))), .val (.int ((p6 &&& (2147483647 : Int32)) % (5 : Int32))), .val (.int (own_min ((p5 &&& (2147483647 : Int32)) % (5 : Int32)) ((p6 &&& (2147483647 : Int32)) % (5 : Int32)))), .val (.int (own_max ((p5 &&& (2147483647 : Int32)) % (5 : Int32)) ((p6 &&& (2147483647 : Int32)) % (5 : Int32)))), .val (.ref b8), .unset, .unset, .unset, .unset, .unset, .unset, .unset, .unset] [(.double (FP.l2d p2.toInt64)), (.int (1 : Int32)), (.ref b8)]))
  have fc18 : Fld Z h13 b8 "com/example/quantail/quantail/NumberArray" "items" "[D" (.ref it_9) := (pq9_2.keep Kq13 (ninS (Nat.ne_of_lt ltb8_9_it_9) nin0))
  have fc21 : Exa Z h13 b8 "com/example/quantail/quantail/NumberArray" := (fc15.keep Kq13)
  obtain ⟨cq20, kq20, qa20, qb20, qc20⟩ := isOf hZ e13 fc21
  obtain ⟨_, _, ⟨T19, L19, k19, n19⟩, -, X19, ⟨Lc19, hQ19, l19, y19, z19⟩, st19⟩ := X13.virtualBack hx (y := (⟨"com/example/quantail/quantail/NumberArray", "setNumber", "(ID)V"⟩ : MethodName)) (z := (⟨"com/example/quantail/quantail/NumberArray", "setNumber", "(ID)V"⟩ : MethodName)) hown (mvT hZ (hw _ (List.mem_of_getElem? (i := 25) rfl))) (mvT hZ (hw _ (List.mem_of_getElem? (i := 26) rfl))) (notFace_of_selects (args := #[]) (mvT hZ (hw _ (List.mem_of_getElem? (i := 28) rfl)))) (mvT hZ (hw _ (List.mem_of_getElem? (i := 28) rfl))) (mvT hZ (hw _ (List.mem_of_getElem? (i := 27) rfl))) (by decide) (backOf (W := 0) (rm6_1 l Z a0 hw [] b8 (FP.l2d p2.toInt64) it_9 kd_9 (FP.l2d p1.toInt64) (0 : UInt64) (0 : UInt64) (0 : UInt64) h13 n0 Z13 fc18 pq13_0 pq9_1) hZ (hw _ (List.mem_of_getElem? (i := 29) rfl)) (hw _ (List.mem_of_getElem? (i := 11) rfl)) (by decide) (by decide)) qa20 qc20 (g := (mkF m 88 #[.val (.int p1), .val (.int p2), .val (.int p3), .val (.int p4), .val (.int p5), .val (.int p6), .val (.ref b1), .val (.int ((p5 &&& (2147483647 : Int32)) % (5 : Int32))), .val (.int ((p6 &&& (2147483647 : Int32)) % (5 : Int32))), .val (.int (own_min ((p5 &&& (2147483647 : Int32)) % (5 : Int32)) ((p6 &&& (2147483647 : Int32)) % (5 : Int32)))), .val (.int (own_max ((p5 &&& (2147483647 : Int32)) % (5 : Int32)) ((p6 &&& (2147483647 : Int32)) % (5 : Int32)))), .val (.ref b8), .unset, .unset, .unset, .unset, .unset, .unset, .unset, .unset] [(.double (FP.l2d p2.toInt64)), (.int (1 : Int32)), (.ref b8)])) rfl (by rw [hml]; rfl) (Steps.refl _) (argsL := [(.int (1 : Int32)), (.double (FP.l2d p2.toInt64))]) (rest := []) (lenOf pd_10 rfl) rfl (by show 2 * 0 + _ ≤ _; exact Nat.le_of_eq rfl) (hb hby at_88) (fun _ _ => ⟨rfl, e13, (by decide : 3 + 0 ≤ _), (by decide : 9 + 0 ≤ _)⟩)
  dsimp only [Pt.U, Pt.locs, Pt.cells, Pt.slots] at X19 l19 y19 z19 st19 hQ19
  rw [l19, y19, z19] at X19
  obtain ⟨rfl, Nq19, Kq19, pq19_0⟩ := hQ19
  refine Goes.run st19 ?_
  have N19 := Fr.app N13 Nq19
  obtain ⟨h19, e19⟩ : ∃ z, T19.heap = z := ⟨_, rfl⟩
  rw [e19] at Kq19 pq19_0
  have Z19 : n0 ≤ h19.size := Nat.le_trans Z13 Kq19.1
  show Goes p e below s _ _ _ (T19.setTop (mkF m 91 #[.val (.int p1), .val (.int p2), .val (.int p3), .val (.int p4), .val (.int p5), .val (.int p6), .val (.ref b1), .val (.int ((p5 &&& (2147483647 : Int32)) % (5 : Int32))), .val (.int ((p6 &&& (2147483647 : Int32)) % (5 : Int32))), .val (.int (own_min ((p5 &&& (2147483647 : Int32)) % (5 : Int32)) ((p6 &&& (2147483647 : Int32)) % (5 : Int32)))), .val (.int (own_max ((p5 &&& (2147483647 : Int32)) % (5 : Int32)) ((p6 &&& (2147483647 : Int32)) % (5 : Int32)))), .val (.ref b8), .unset, .unset, .unset, .unset, .unset, .unset, .unset, .unset] []))
  refine Goes.pre (fun t kt => XS.aload X19.here hx rfl (hb hby at_91) rfl rfl kt) ?_
  show Goes p e below s _ _ _ (T19.setTop (mkF m 93 #[.val (.int p1), .val (.int p2), .val (.int p3), .val (.int p4), .val (.int p5), .val (.int p6), .val (.ref b1), .val (.int ((p5 &&& (2147483647 : Int32)) % (5 : Int32))), .val (.int ((p6 &&& (2147483647 : Int32)) % (5 : Int32))), .val (.int (own_min ((p5 &&& (2147483647 : Int32)) % (5 : Int32)) ((p6 &&& (2147483647 : Int32)) % (5 : Int32)))), .val (.int (own_max ((p5 &&& (2147483647 : Int32)) % (5 : Int32)) ((p6 &&& (2147483647 : Int32)) % (5 : Int32)))), .val (.ref b8), .unset, .unset, .unset, .unset, .unset, .unset, .unset, .unset] [(.ref b8)]))
  refine Goes.pre (fun t kt => XS.iconst X19.here hx rfl (hb hby at_93) kt) ?_
  show Goes p e below s _ _ _ (T19.setTop (mkF m 94 #[.val (.int p1), .val (.int p2), .val (.int p3), .val (.int p4), .val (.int p5), .val (.int p6), .val (.ref b1), .val (.int ((p5 &&& (2147483647 : Int32)) % (5 : Int32))), .val (.int ((p6 &&& (2147483647 : Int32)) % (5 : Int32))), .val (.int (own_min ((p5 &&& (2147483647 : Int32)) % (5 : Int32)) ((p6 &&& (2147483647 : Int32)) % (5 : Int32)))), .val (.int (own_max ((p5 &&& (2147483647 : Int32)) % (5 : Int32)) ((p6 &&& (2147483647 : Int32)) % (5 : Int32)))), .val (.ref b8), .unset, .unset, .unset, .unset, .unset, .unset, .unset, .unset] [(.int (2 : Int32)), (.ref b8)]))
  refine Goes.pre (fun t kt => XS.aload X19.here hx rfl (hb hby at_94) rfl rfl kt) ?_
  show Goes p e below s _ _ _ (T19.setTop (mkF m 96 #[.val (.int p1), .val (.int p2), .val (.int p3), .val (.int p4), .val (.int p5), .val (.int p6), .val (.ref b1), .val (.int ((p5 &&& (2147483647 : Int32)) % (5 : Int32))), .val (.int ((p6 &&& (2147483647 : Int32)) % (5 : Int32))), .val (.int (own_min ((p5 &&& (2147483647 : Int32)) % (5 : Int32)) ((p6 &&& (2147483647 : Int32)) % (5 : Int32)))), .val (.int (own_max ((p5 &&& (2147483647 : Int32)) % (5 : Int32)) ((p6 &&& (2147483647 : Int32)) % (5 : Int32)))), .val (.ref b8), .unset, .unset, .unset, .unset, .unset, .unset, .unset, .unset] [(.ref b1), (.int (2 : Int32)), (.ref b8)]))
  refine Goes.pre (fun t kt => XS.iconst X19.here hx rfl (hb hby at_96) kt) ?_
  show Goes p e below s _ _ _ (T19.setTop (mkF m 97 #[.val (.int p1), .val (.int p2), .val (.int p3), .val (.int p4), .val (.int p5), .val (.int p6), .val (.ref b1), .val (.int ((p5 &&& (2147483647 : Int32)) % (5 : Int32))), .val (.int ((p6 &&& (2147483647 : Int32)) % (5 : Int32))), .val (.int (own_min ((p5 &&& (2147483647 : Int32)) % (5 : Int32)) ((p6 &&& (2147483647 : Int32)) % (5 : Int32)))), .val (.int (own_max ((p5 &&& (2147483647 : Int32)) % (5 : Int32)) ((p6 &&& (2147483647 : Int32)) % (5 : Int32)))), .val (.ref b8), .unset, .unset, .unset, .unset, .unset, .unset, .unset, .unset] [(.int (2 : Int32)), (.ref b1), (.int (2 : Int32)), (.ref b8)]))
  have fc22 : Arv Z h19 b1 k1 .double (4 : Int32) [(.double (FP.l2d p1.toInt64)), (.double (FP.l2d p2.toInt64)), (.double (FP.l2d p3.toInt64)), (.double (FP.l2d p4.toInt64))] (.double (0 : UInt64)) := (V17.keep Kq19 (ninS (Nat.ne_of_lt ltb1_9_it_9) nin0))
  obtain ⟨cl23, Ar23, aq23, aS23, aN23, aH23, aG23⟩ := fc22
  have V23 : Arv Z h19 b1 k1 .double (4 : Int32) [(.double (FP.l2d p1.toInt64)), (.double (FP.l2d p2.toInt64)), (.double (FP.l2d p3.toInt64)), (.double (FP.l2d p4.toInt64))] (.double (0 : UInt64)) := ⟨cl23, Ar23, aq23, aS23, aN23, aH23, aG23⟩
  have hin23 : ¬ ((2 : Int32) < 0 ∨ cl23.slots.size ≤ ((2 : Int32)).toNatClampNeg) := inb_of aS23 ⟨by decide, by decide⟩
  have hat23 : cl23.slots[((2 : Int32)).toNatClampNeg]? = some (.double (FP.l2d p3.toInt64)) := aH23.at hin23 rfl
  refine Goes.pre (X19.daload hx (j := (2 : Int32)) (v := (.double (FP.l2d p3.toInt64))) (by rw [e19]; exact Ar23.1) (State.isArrayOf_alike hZ.alike Ar23.2.1) Ar23.2.2 hin23 hat23 (g := (mkF m 97 #[.val (.int p1), .val (.int p2), .val (.int p3), .val (.int p4), .val (.int p5), .val (.int p6), .val (.ref b1), .val (.int ((p5 &&& (2147483647 : Int32)) % (5 : Int32))), .val (.int ((p6 &&& (2147483647 : Int32)) % (5 : Int32))), .val (.int (own_min ((p5 &&& (2147483647 : Int32)) % (5 : Int32)) ((p6 &&& (2147483647 : Int32)) % (5 : Int32)))), .val (.int (own_max ((p5 &&& (2147483647 : Int32)) % (5 : Int32)) ((p6 &&& (2147483647 : Int32)) % (5 : Int32)))), .val (.ref b8), .unset, .unset, .unset, .unset, .unset, .unset, .unset, .unset] [(.int (2 : Int32)), (.ref b1), (.int (2 : Int32)), (.ref b8)])) rfl rfl (hb hby at_97)) ?_
  show Goes p e below s _ _ _ (T19.setTop (mkF m 98 #[.val (.int p1), .val (.int p2), .val (.int p3), .val (.int p4), .val (.int p5), .val (.int p6), .val (.ref b1), .val (.int ((p5 &&& (2147483647 : Int32)) % (5 : Int32))), .val (.int ((p6 &&& (2147483647 : Int32)) % (5 : Int32))), .val (.int (own_min ((p5 &&& (2147483647 : Int32)) % (5 : Int32)) ((p6 &&& (2147483647 : Int32)) % (5 : Int32)))), .val (.int (own_max ((p5 &&& (2147483647 : Int32)) % (5 : Int32)) ((p6 &&& (2147483647 : Int32)) % (5 : Int32)))), .val (.ref b8), .unset, .unset, .unset, .unset, .unset, .unset, .unset, .unset] [(.double (FP.l2d p3.toInt64)), (.int (2 : Int32)), (.ref b8)]))
  have fc24 : Fld Z h19 b8 "com/example/quantail/quantail/NumberArray" "items" "[D" (.ref it_9) := (fc18.keep Kq19 (ninS (Nat.ne_of_lt ltb8_9_it_9) nin0))
  have fc27 : Exa Z h19 b8 "com/example/quantail/quantail/NumberArray" := (fc21.keep Kq19)
  obtain ⟨cq26, kq26, qa26, qb26, qc26⟩ := isOf hZ e19 fc27
  obtain ⟨_, _, ⟨T25, L25, k25, n25⟩, -, X25, ⟨Lc25, hQ25, l25, y25, z25⟩, st25⟩ := X19.virtualBack hx (y := (⟨"com/example/quantail/quantail/NumberArray", "setNumber", "(ID)V"⟩ : MethodName)) (z := (⟨"com/example/quantail/quantail/NumberArray", "setNumber", "(ID)V"⟩ : MethodName)) hown (mvT hZ (hw _ (List.mem_of_getElem? (i := 25) rfl))) (mvT hZ (hw _ (List.mem_of_getElem? (i := 26) rfl))) (notFace_of_selects (args := #[]) (mvT hZ (hw _ (List.mem_of_getElem? (i := 28) rfl)))) (mvT hZ (hw _ (List.mem_of_getElem? (i := 28) rfl))) (mvT hZ (hw _ (List.mem_of_getElem? (i := 27) rfl))) (by decide) (backOf (W := 0) (rm6_2 l Z a0 hw [] b8 (FP.l2d p3.toInt64) it_9 kd_9 (FP.l2d p1.toInt64) (FP.l2d p2.toInt64) (0 : UInt64) (0 : UInt64) h19 n0 Z19 fc24 pq19_0 pq9_1) hZ (hw _ (List.mem_of_getElem? (i := 29) rfl)) (hw _ (List.mem_of_getElem? (i := 11) rfl)) (by decide) (by decide)) qa26 qc26 (g := (mkF m 98 #[.val (.int p1), .val (.int p2), .val (.int p3), .val (.int p4), .val (.int p5), .val (.int p6), .val (.ref b1), .val (.int ((p5 &&& (2147483647 : Int32)) % (5 : Int32))), .val (.int ((p6 &&& (2147483647 : Int32)) % (5 : Int32))), .val (.int (own_min ((p5 &&& (2147483647 : Int32)) % (5 : Int32)) ((p6 &&& (2147483647 : Int32)) % (5 : Int32)))), .val (.int (own_max ((p5 &&& (2147483647 : Int32)) % (5 : Int32)) ((p6 &&& (2147483647 : Int32)) % (5 : Int32)))), .val (.ref b8), .unset, .unset, .unset, .unset, .unset, .unset, .unset, .unset] [(.double (FP.l2d p3.toInt64)), (.int (2 : Int32)), (.ref b8)])) rfl (by rw [hml]; rfl) (Steps.refl _) (argsL := [(.int (2 : Int32)), (.double (FP.l2d p3.toInt64))]) (rest := []) (lenOf pd_10 rfl) rfl (by show 2 * 0 + _ ≤ _; exact Nat.le_of_eq rfl) (hb hby at_98) (fun _ _ => ⟨rfl, e19, (by decide : 3 + 0 ≤ _), (by decide : 9 + 0 ≤ _)⟩)
  dsimp only [Pt.U, Pt.locs, Pt.cells, Pt.slots] at X25 l25 y25 z25 st25 hQ25
  rw [l25, y25, z25] at X25
  obtain ⟨rfl, Nq25, Kq25, pq25_0⟩ := hQ25
  refine Goes.run st25 ?_
  have N25 := Fr.app N19 Nq25
  obtain ⟨h25, e25⟩ : ∃ z, T25.heap = z := ⟨_, rfl⟩
  rw [e25] at Kq25 pq25_0
  have Z25 : n0 ≤ h25.size := Nat.le_trans Z19 Kq25.1
  show Goes p e below s _ _ _ (T25.setTop (mkF m 101 #[.val (.int p1), .val (.int p2), .val (.int p3), .val (.int p4), .val (.int p5), .val (.int p6), .val (.ref b1), .val (.int ((p5 &&& (2147483647 : Int32)) % (5 : Int32))), .val (.int ((p6 &&& (2147483647 : Int32)) % (5 : Int32))), .val (.int (own_min ((p5 &&& (2147483647 : Int32)) % (5 : Int32)) ((p6 &&& (2147483647 : Int32)) % (5 : Int32)))), .val (.int (own_max ((p5 &&& (2147483647 : Int32)) % (5 : Int32)) ((p6 &&& (2147483647 : Int32)) % (5 : Int32)))), .val (.ref b8), .unset, .unset, .unset, .unset, .unset, .unset, .unset, .unset] []))
  refine Goes.pre (fun t kt => XS.aload X25.here hx rfl (hb hby at_101) rfl rfl kt) ?_
  show Goes p e below s _ _ _ (T25.setTop (mkF m 103 #[.val (.int p1), .val (.int p2), .val (.int p3), .val (.int p4), .val (.int p5), .val (.int p6), .val (.ref b1), .val (.int ((p5 &&& (2147483647 : Int32)) % (5 : Int32))), .val (.int ((p6 &&& (2147483647 : Int32)) % (5 : Int32))), .val (.int (own_min ((p5 &&& (2147483647 : Int32)) % (5 : Int32)) ((p6 &&& (2147483647 : Int32)) % (5 : Int32)))), .val (.int (own_max ((p5 &&& (2147483647 : Int32)) % (5 : Int32)) ((p6 &&& (2147483647 : Int32)) % (5 : Int32)))), .val (.ref b8), .unset, .unset, .unset, .unset, .unset, .unset, .unset, .unset] [(.ref b8)]))
  refine Goes.pre (fun t kt => XS.iconst X25.here hx rfl (hb hby at_103) kt) ?_
  show Goes p e below s _ _ _ (T25.setTop (mkF m 104 #[.val (.int p1), .val (.int p2), .val (.int p3), .val (.int p4), .val (.int p5), .val (.int p6), .val (.ref b1), .val (.int ((p5 &&& (2147483647 : Int32)) % (5 : Int32))), .val (.int ((p6 &&& (2147483647 : Int32)) % (5 : Int32))), .val (.int (own_min ((p5 &&& (2147483647 : Int32)) % (5 : Int32)) ((p6 &&& (2147483647 : Int32)) % (5 : Int32)))), .val (.int (own_max ((p5 &&& (2147483647 : Int32)) % (5 : Int32)) ((p6 &&& (2147483647 : Int32)) % (5 : Int32)))), .val (.ref b8), .unset, .unset, .unset, .unset, .unset, .unset, .unset, .unset] [(.int (3 : Int32)), (.ref b8)]))
  refine Goes.pre (fun t kt => XS.aload X25.here hx rfl (hb hby at_104) rfl rfl kt) ?_
  show Goes p e below s _ _ _ (T25.setTop (mkF m 106 #[.val (.int p1), .val (.int p2), .val (.int p3), .val (.int p4), .val (.int p5), .val (.int p6), .val (.ref b1), .val (.int ((p5 &&& (2147483647 : Int32)) % (5 : Int32))), .val (.int ((p6 &&& (2147483647 : Int32)) % (5 : Int32))), .val (.int (own_min ((p5 &&& (2147483647 : Int32)) % (5 : Int32)) ((p6 &&& (2147483647 : Int32)) % (5 : Int32)))), .val (.int (own_max ((p5 &&& (2147483647 : Int32)) % (5 : Int32)) ((p6 &&& (2147483647 : Int32)) % (5 : Int32)))), .val (.ref b8), .unset, .unset, .unset, .unset, .unset, .unset, .unset, .unset] [(.ref b1), (.int (3 : Int32)), (.ref b8)]))
  refine Goes.pre (fun t kt => XS.iconst X25.here hx rfl (hb hby at_106) kt) ?_
  show Goes p e below s _ _ _ (T25.setTop (mkF m 107 #[.val (.int p1), .val (.int p2), .val (.int p3), .val (.int p4), .val (.int p5), .val (.int p6), .val (.ref b1), .val (.int ((p5 &&& (2147483647 : Int32)) % (5 : Int32))), .val (.int ((p6 &&& (2147483647 : Int32)) % (5 : Int32))), .val (.int (own_min ((p5 &&& (2147483647 : Int32)) % (5 : Int32)) ((p6 &&& (2147483647 : Int32)) % (5 : Int32)))), .val (.int (own_max ((p5 &&& (2147483647 : Int32)) % (5 : Int32)) ((p6 &&& (2147483647 : Int32)) % (5 : Int32)))), .val (.ref b8), .unset, .unset, .unset, .unset, .unset, .unset, .unset, .unset] [(.int (3 : Int32)), (.ref b1), (.int (3 : Int32)), (.ref b8)]))
  have fc28 : Arv Z h25 b1 k1 .double (4 : Int32) [(.double (FP.l2d p1.toInt64)), (.double (FP.l2d p2.toInt64)), (.double (FP.l2d p3.toInt64)), (.double (FP.l2d p4.toInt64))] (.double (0 : UInt64)) := (V23.keep Kq25 (ninS (Nat.ne_of_lt ltb1_9_it_9) nin0))
  obtain ⟨cl29, Ar29, aq29, aS29, aN29, aH29, aG29⟩ := fc28
  have V29 : Arv Z h25 b1 k1 .double (4 : Int32) [(.double (FP.l2d p1.toInt64)), (.double (FP.l2d p2.toInt64)), (.double (FP.l2d p3.toInt64)), (.double (FP.l2d p4.toInt64))] (.double (0 : UInt64)) := ⟨cl29, Ar29, aq29, aS29, aN29, aH29, aG29⟩
  have hin29 : ¬ ((3 : Int32) < 0 ∨ cl29.slots.size ≤ ((3 : Int32)).toNatClampNeg) := inb_of aS29 ⟨by decide, by decide⟩
  have hat29 : cl29.slots[((3 : Int32)).toNatClampNeg]? = some (.double (FP.l2d p4.toInt64)) := aH29.at hin29 rfl
  refine Goes.pre (X25.daload hx (j := (3 : Int32)) (v := (.double (FP.l2d p4.toInt64))) (by rw [e25]; exact Ar29.1) (State.isArrayOf_alike hZ.alike Ar29.2.1) Ar29.2.2 hin29 hat29 (g := (mkF m 107 #[.val (.int p1), .val (.int p2), .val (.int p3), .val (.int p4), .val (.int p5), .val (.int p6), .val (.ref b1), .val (.int ((p5 &&& (2147483647 : Int32)) % (5 : Int32))), .val (.int ((p6 &&& (2147483647 : Int32)) % (5 : Int32))), .val (.int (own_min ((p5 &&& (2147483647 : Int32)) % (5 : Int32)) ((p6 &&& (2147483647 : Int32)) % (5 : Int32)))), .val (.int (own_max ((p5 &&& (2147483647 : Int32)) % (5 : Int32)) ((p6 &&& (2147483647 : Int32)) % (5 : Int32)))), .val (.ref b8), .unset, .unset, .unset, .unset, .unset, .unset, .unset, .unset] [(.int (3 : Int32)), (.ref b1), (.int (3 : Int32)), (.ref b8)])) rfl rfl (hb hby at_107)) ?_
  show Goes p e below s _ _ _ (T25.setTop (mkF m 108 #[.val (.int p1), .val (.int p2), .val (.int p3), .val (.int p4), .val (.int p5), .val (.int p6), .val (.ref b1), .val (.int ((p5 &&& (2147483647 : Int32)) % (5 : Int32))), .val (.int ((p6 &&& (2147483647 : Int32)) % (5 : Int32))), .val (.int (own_min ((p5 &&& (2147483647 : Int32)) % (5 : Int32)) ((p6 &&& (2147483647 : Int32)) % (5 : Int32)))), .val (.int (own_max ((p5 &&& (2147483647 : Int32)) % (5 : Int32)) ((p6 &&& (2147483647 : Int32)) % (5 : Int32)))), .val (.ref b8), .unset, .unset, .unset, .unset, .unset, .unset, .unset, .unset] [(.double (FP.l2d p4.toInt64)), (.int (3 : Int32)), (.ref b8)]))
  have fc30 : Fld Z h25 b8 "com/example/quantail/quantail/NumberArray" "items" "[D" (.ref it_9) := (fc24.keep Kq25 (ninS (Nat.ne_of_lt ltb8_9_it_9) nin0))
  have fc33 : Exa Z h25 b8 "com/example/quantail/quantail/NumberArray" := (fc27.keep Kq25)
  obtain ⟨cq32, kq32, qa32, qb32, qc32⟩ := isOf hZ e25 fc33
  obtain ⟨_, _, ⟨T31, L31, k31, n31⟩, -, X31, ⟨Lc31, hQ31, l31, y31, z31⟩, st31⟩ := X25.virtualBack hx (y := (⟨"com/example/quantail/quantail/NumberArray", "setNumber", "(ID)V"⟩ : MethodName)) (z := (⟨"com/example/quantail/quantail/NumberArray", "setNumber", "(ID)V"⟩ : MethodName)) hown (mvT hZ (hw _ (List.mem_of_getElem? (i := 25) rfl))) (mvT hZ (hw _ (List.mem_of_getElem? (i := 26) rfl))) (notFace_of_selects (args := #[]) (mvT hZ (hw _ (List.mem_of_getElem? (i := 28) rfl)))) (mvT hZ (hw _ (List.mem_of_getElem? (i := 28) rfl))) (mvT hZ (hw _ (List.mem_of_getElem? (i := 27) rfl))) (by decide) (backOf (W := 0) (rm6_3 l Z a0 hw [] b8 (FP.l2d p4.toInt64) it_9 kd_9 (FP.l2d p1.toInt64) (FP.l2d p2.toInt64) (FP.l2d p3.toInt64) (0 : UInt64) h25 n0 Z25 fc30 pq25_0 pq9_1) hZ (hw _ (List.mem_of_getElem? (i := 29) rfl)) (hw _ (List.mem_of_getElem? (i := 11) rfl)) (by decide) (by decide)) qa32 qc32 (g := (mkF m 108 #[.val (.int p1), .val (.int p2), .val (.int p3), .val (.int p4), .val (.int p5), .val (.int p6), .val (.ref b1), .val (.int ((p5 &&& (2147483647 : Int32)) % (5 : Int32))), .val (.int ((p6 &&& (2147483647 : Int32)) % (5 : Int32))), .val (.int (own_min ((p5 &&& (2147483647 : Int32)) % (5 : Int32)) ((p6 &&& (2147483647 : Int32)) % (5 : Int32)))), .val (.int (own_max ((p5 &&& (2147483647 : Int32)) % (5 : Int32)) ((p6 &&& (2147483647 : Int32)) % (5 : Int32)))), .val (.ref b8), .unset, .unset, .unset, .unset, .unset, .unset, .unset, .unset] [(.double (FP.l2d p4.toInt64)), (.int (3 : Int32)), (.ref b8)])) rfl (by rw [hml]; rfl) (Steps.refl _) (argsL := [(.int (3 : Int32)), (.double (FP.l2d p4.toInt64))]) (rest := []) (lenOf pd_10 rfl) rfl (by show 2 * 0 + _ ≤ _; exact Nat.le_of_eq rfl) (hb hby at_108) (fun _ _ => ⟨rfl, e25, (by decide : 3 + 0 ≤ _), (by decide : 9 + 0 ≤ _)⟩)
  dsimp only [Pt.U, Pt.locs, Pt.cells, Pt.slots] at X31 l31 y31 z31 st31 hQ31
  rw [l31, y31, z31] at X31
  obtain ⟨rfl, Nq31, Kq31, pq31_0⟩ := hQ31
  refine Goes.run st31 ?_
  have N31 := Fr.app N25 Nq31
  obtain ⟨h31, e31⟩ : ∃ z, T31.heap = z := ⟨_, rfl⟩
  rw [e31] at Kq31 pq31_0
  have Z31 : n0 ≤ h31.size := Nat.le_trans Z25 Kq31.1
  show Goes p e below s _ _ _ (T31.setTop (mkF m 111 #[.val (.int p1), .val (.int p2), .val (.int p3), .val (.int p4), .val (.int p5), .val (.int p6), .val (.ref b1), .val (.int ((p5 &&& (2147483647 : Int32)) % (5 : Int32))), .val (.int ((p6 &&& (2147483647 : Int32)) % (5 : Int32))), .val (.int (own_min ((p5 &&& (2147483647 : Int32)) % (5 : Int32)) ((p6 &&& (2147483647 : Int32)) % (5 : Int32)))), .val (.int (own_max ((p5 &&& (2147483647 : Int32)) % (5 : Int32)) ((p6 &&& (2147483647 : Int32)) % (5 : Int32)))), .val (.ref b8), .unset, .unset, .unset, .unset, .unset, .unset, .unset, .unset] []))
  refine Goes.pre (fun t kt => XS.aload X31.here hx rfl (hb hby at_111) rfl rfl kt) ?_
  show Goes p e below s _ _ _ (T31.setTop (mkF m 113 #[.val (.int p1), .val (.int p2), .val (.int p3), .val (.int p4), .val (.int p5), .val (.int p6), .val (.ref b1), .val (.int ((p5 &&& (2147483647 : Int32)) % (5 : Int32))), .val (.int ((p6 &&& (2147483647 : Int32)) % (5 : Int32))), .val (.int (own_min ((p5 &&& (2147483647 : Int32)) % (5 : Int32)) ((p6 &&& (2147483647 : Int32)) % (5 : Int32)))), .val (.int (own_max ((p5 &&& (2147483647 : Int32)) % (5 : Int32)) ((p6 &&& (2147483647 : Int32)) % (5 : Int32)))), .val (.ref b8), .unset, .unset, .unset, .unset, .unset, .unset, .unset, .unset] [(.ref b8)]))
  refine Goes.pre (fun t kt => XS.iload X31.here hx rfl (hb hby at_113) rfl kt) ?_
  show Goes p e below s _ _ _ (T31.setTop (mkF m 115 #[.val (.int p1), .val (.int p2), .val (.int p3), .val (.int p4), .val (.int p5), .val (.int p6), .val (.ref b1), .val (.int ((p5 &&& (2147483647 : Int32)) % (5 : Int32))), .val (.int ((p6 &&& (2147483647 : Int32)) % (5 : Int32))), .val (.int (own_min ((p5 &&& (2147483647 : Int32)) % (5 : Int32)) ((p6 &&& (2147483647 : Int32)) % (5 : Int32)))), .val (.int (own_max ((p5 &&& (2147483647 : Int32)) % (5 : Int32)) ((p6 &&& (2147483647 : Int32)) % (5 : Int32)))), .val (.ref b8), .unset, .unset, .unset, .unset, .unset, .unset, .unset, .unset] [(.int (own_min ((p5 &&& (2147483647 : Int32)) % (5 : Int32)) ((p6 &&& (2147483647 : Int32)) % (5 : Int32)))), (.ref b8)]))
  refine Goes.pre (fun t kt => XS.iload X31.here hx rfl (hb hby at_115) rfl kt) ?_
  show Goes p e below s _ _ _ (T31.setTop (mkF m 117 #[.val (.int p1), .val (.int p2), .val (.int p3), .val (.int p4), .val (.int p5), .val (.int p6), .val (.ref b1), .val (.int ((p5 &&& (2147483647 : Int32)) % (5 : Int32))), .val (.int ((p6 &&& (2147483647 : Int32)) % (5 : Int32))), .val (.int (own_min ((p5 &&& (2147483647 : Int32)) % (5 : Int32)) ((p6 &&& (2147483647 : Int32)) % (5 : Int32)))), .val (.int (own_max ((p5 &&& (2147483647 : Int32)) % (5 : Int32)) ((p6 &&& (2147483647 : Int32)) % (5 : Int32)))), .val (.ref b8), .unset, .unset, .unset, .unset, .unset, .unset, .unset, .unset] [(.int (own_max ((p5 &&& (2147483647 : Int32)) % (5 : Int32)) ((p6 &&& (2147483647 : Int32)) % (5 : Int32)))), (.int (own_min ((p5 &&& (2147483647 : Int32)) % (5 : Int32)) ((p6 &&& (2147483647 : Int32)) % (5 : Int32)))), (.ref b8)]))
  have fc34 : Fld Z h31 b8 "com/example/quantail/quantail/NumberArray" "items" "[D" (.ref it_9) := (fc30.keep Kq31 (ninS (Nat.ne_of_lt ltb8_9_it_9) nin0))
  have fc37 : Exa Z h31 b8 "com/example/quantail/quantail/NumberArray" := (fc33.keep Kq31)
  obtain ⟨cq36, kq36, qa36, qb36, qc36⟩ := isOf hZ e31 fc37
  obtain ⟨_, _, ⟨T35, L35, k35, n35⟩, -, X35, ⟨Lc35, hQ35, l35, y35, z35⟩, st35⟩ := X31.virtualBack hx (y := (⟨"com/example/quantail/quantail/NumberArray", "reverse", "(II)V"⟩ : MethodName)) (z := (⟨"com/example/quantail/quantail/NumberArray", "reverse", "(II)V"⟩ : MethodName)) hown (mvT hZ (hw _ (List.mem_of_getElem? (i := 30) rfl))) (mvT hZ (hw _ (List.mem_of_getElem? (i := 31) rfl))) (notFace_of_selects (args := #[]) (mvT hZ (hw _ (List.mem_of_getElem? (i := 33) rfl)))) (mvT hZ (hw _ (List.mem_of_getElem? (i := 33) rfl))) (mvT hZ (hw _ (List.mem_of_getElem? (i := 32) rfl))) (by decide) (backOf (W := 0) (rm7 l Z a0 hw [] b8 (own_min ((p5 &&& (2147483647 : Int32)) % (5 : Int32)) ((p6 &&& (2147483647 : Int32)) % (5 : Int32))) (own_max ((p5 &&& (2147483647 : Int32)) % (5 : Int32)) ((p6 &&& (2147483647 : Int32)) % (5 : Int32))) it_9 kd_9 (FP.l2d p1.toInt64) (FP.l2d p2.toInt64) (FP.l2d p3.toInt64) (FP.l2d p4.toInt64) h31 n0 Z31 fc34 pq31_0 pq9_1 (Nat.ne_of_lt ltb8_9_it_9) (own_okLaw p5 p6)) hZ (hw _ (List.mem_of_getElem? (i := 34) rfl)) (hw _ (List.mem_of_getElem? (i := 11) rfl)) (by decide) (by decide)) qa36 qc36 (g := (mkF m 117 #[.val (.int p1), .val (.int p2), .val (.int p3), .val (.int p4), .val (.int p5), .val (.int p6), .val (.ref b1), .val (.int ((p5 &&& (2147483647 : Int32)) % (5 : Int32))), .val (.int ((p6 &&& (2147483647 : Int32)) % (5 : Int32))), .val (.int (own_min ((p5 &&& (2147483647 : Int32)) % (5 : Int32)) ((p6 &&& (2147483647 : Int32)) % (5 : Int32)))), .val (.int (own_max ((p5 &&& (2147483647 : Int32)) % (5 : Int32)) ((p6 &&& (2147483647 : Int32)) % (5 : Int32)))), .val (.ref b8), .unset, .unset, .unset, .unset, .unset, .unset, .unset, .unset] [(.int (own_max ((p5 &&& (2147483647 : Int32)) % (5 : Int32)) ((p6 &&& (2147483647 : Int32)) % (5 : Int32)))), (.int (own_min ((p5 &&& (2147483647 : Int32)) % (5 : Int32)) ((p6 &&& (2147483647 : Int32)) % (5 : Int32)))), (.ref b8)])) rfl (by rw [hml]; rfl) (Steps.refl _) (argsL := [(.int (own_min ((p5 &&& (2147483647 : Int32)) % (5 : Int32)) ((p6 &&& (2147483647 : Int32)) % (5 : Int32)))), (.int (own_max ((p5 &&& (2147483647 : Int32)) % (5 : Int32)) ((p6 &&& (2147483647 : Int32)) % (5 : Int32))))]) (rest := []) (lenOf pd_11 rfl) rfl (by show 2 * 0 + _ ≤ _; exact Nat.le_of_eq rfl) (hb hby at_117) (fun _ _ => ⟨rfl, e31, (by decide : 3 + 0 ≤ _), (by decide : 9 + 0 ≤ _)⟩)
  dsimp only [Pt.U, Pt.locs, Pt.cells, Pt.slots] at X35 l35 y35 z35 st35 hQ35
  rw [l35, y35, z35] at X35
  obtain ⟨rfl, Nq35, Kq35, pq35_0⟩ := hQ35
  refine Goes.run st35 ?_
  have N35 := Fr.app N31 Nq35
  obtain ⟨h35, e35⟩ : ∃ z, T35.heap = z := ⟨_, rfl⟩
  rw [e35] at Kq35 pq35_0
  have Z35 : n0 ≤ h35.size := Nat.le_trans Z31 Kq35.1
  show Goes p e below s _ _ _ (T35.setTop (mkF m 120 #[.val (.int p1), .val (.int p2), .val (.int p3), .val (.int p4), .val (.int p5), .val (.int p6), .val (.ref b1), .val (.int ((p5 &&& (2147483647 : Int32)) % (5 : Int32))), .val (.int ((p6 &&& (2147483647 : Int32)) % (5 : Int32))), .val (.int (own_min ((p5 &&& (2147483647 : Int32)) % (5 : Int32)) ((p6 &&& (2147483647 : Int32)) % (5 : Int32)))), .val (.int (own_max ((p5 &&& (2147483647 : Int32)) % (5 : Int32)) ((p6 &&& (2147483647 : Int32)) % (5 : Int32)))), .val (.ref b8), .unset, .unset, .unset, .unset, .unset, .unset, .unset, .unset] []))
  refine Goes.pre (fun t kt => XS.aload X35.here hx rfl (hb hby at_120) rfl rfl kt) ?_
  show Goes p e below s _ _ _ (T35.setTop (mkF m 122 #[.val (.int p1), .val (.int p2), .val (.int p3), .val (.int p4), .val (.int p5), .val (.int p6), .val (.ref b1), .val (.int ((p5 &&& (2147483647 : Int32)) % (5 : Int32))), .val (.int ((p6 &&& (2147483647 : Int32)) % (5 : Int32))), .val (.int (own_min ((p5 &&& (2147483647 : Int32)) % (5 : Int32)) ((p6 &&& (2147483647 : Int32)) % (5 : Int32)))), .val (.int (own_max ((p5 &&& (2147483647 : Int32)) % (5 : Int32)) ((p6 &&& (2147483647 : Int32)) % (5 : Int32)))), .val (.ref b8), .unset, .unset, .unset, .unset, .unset, .unset, .unset, .unset] [(.ref b8)]))
  refine Goes.pre (fun t kt => XS.iconst X35.here hx rfl (hb hby at_122) kt) ?_
  show Goes p e below s _ _ _ (T35.setTop (mkF m 123 #[.val (.int p1), .val (.int p2), .val (.int p3), .val (.int p4), .val (.int p5), .val (.int p6), .val (.ref b1), .val (.int ((p5 &&& (2147483647 : Int32)) % (5 : Int32))), .val (.int ((p6 &&& (2147483647 : Int32)) % (5 : Int32))), .val (.int (own_min ((p5 &&& (2147483647 : Int32)) % (5 : Int32)) ((p6 &&& (2147483647 : Int32)) % (5 : Int32)))), .val (.int (own_max ((p5 &&& (2147483647 : Int32)) % (5 : Int32)) ((p6 &&& (2147483647 : Int32)) % (5 : Int32)))), .val (.ref b8), .unset, .unset, .unset, .unset, .unset, .unset, .unset, .unset] [(.int (0 : Int32)), (.ref b8)]))
  have fc38 : Fld Z h35 b8 "com/example/quantail/quantail/NumberArray" "items" "[D" (.ref it_9) := (fc34.keep Kq35 (ninS (Nat.ne_of_lt ltb8_9_it_9) nin0))
  have fc41 : Exa Z h35 b8 "com/example/quantail/quantail/NumberArray" := (fc37.keep Kq35)
  obtain ⟨cq40, kq40, qa40, qb40, qc40⟩ := isOf hZ e35 fc41
  obtain ⟨_, _, ⟨T39, L39, k39, n39⟩, -, X39, ⟨Lc39, hQ39, l39, y39, z39⟩, st39⟩ := X35.virtualBack hx (y := (⟨"com/example/quantail/quantail/NumberArray", "get", "(I)Ljava/lang/Double;"⟩ : MethodName)) (z := (⟨"com/example/quantail/quantail/NumberArray", "get", "(I)Ljava/lang/Double;"⟩ : MethodName)) hown (mvT hZ (hw _ (List.mem_of_getElem? (i := 35) rfl))) (mvT hZ (hw _ (List.mem_of_getElem? (i := 36) rfl))) (notFace_of_selects (args := #[]) (mvT hZ (hw _ (List.mem_of_getElem? (i := 38) rfl)))) (mvT hZ (hw _ (List.mem_of_getElem? (i := 38) rfl))) (mvT hZ (hw _ (List.mem_of_getElem? (i := 37) rfl))) (by decide) (backOf (W := 0) (rm8_0 l Z a0 hw [] b8 it_9 kd_9 (own_e (own_min ((p5 &&& (2147483647 : Int32)) % (5 : Int32)) ((p6 &&& (2147483647 : Int32)) % (5 : Int32))) (own_max ((p5 &&& (2147483647 : Int32)) % (5 : Int32)) ((p6 &&& (2147483647 : Int32)) % (5 : Int32))) (0 : Int32) (FP.l2d p1.toInt64) (FP.l2d p2.toInt64) (FP.l2d p3.toInt64) (FP.l2d p4.toInt64)) (own_e (own_min ((p5 &&& (2147483647 : Int32)) % (5 : Int32)) ((p6 &&& (2147483647 : Int32)) % (5 : Int32))) (own_max ((p5 &&& (2147483647 : Int32)) % (5 : Int32)) ((p6 &&& (2147483647 : Int32)) % (5 : Int32))) (1 : Int32) (FP.l2d p1.toInt64) (FP.l2d p2.toInt64) (FP.l2d p3.toInt64) (FP.l2d p4.toInt64)) (own_e (own_min ((p5 &&& (2147483647 : Int32)) % (5 : Int32)) ((p6 &&& (2147483647 : Int32)) % (5 : Int32))) (own_max ((p5 &&& (2147483647 : Int32)) % (5 : Int32)) ((p6 &&& (2147483647 : Int32)) % (5 : Int32))) (2 : Int32) (FP.l2d p1.toInt64) (FP.l2d p2.toInt64) (FP.l2d p3.toInt64) (FP.l2d p4.toInt64)) (own_e (own_min ((p5 &&& (2147483647 : Int32)) % (5 : Int32)) ((p6 &&& (2147483647 : Int32)) % (5 : Int32))) (own_max ((p5 &&& (2147483647 : Int32)) % (5 : Int32)) ((p6 &&& (2147483647 : Int32)) % (5 : Int32))) (3 : Int32) (FP.l2d p1.toInt64) (FP.l2d p2.toInt64) (FP.l2d p3.toInt64) (FP.l2d p4.toInt64)) h35 n0 Z35 fc38 pq35_0) hZ (hw _ (List.mem_of_getElem? (i := 39) rfl)) (hw _ (List.mem_of_getElem? (i := 11) rfl)) (by decide) (by decide)) qa40 qc40 (g := (mkF m 123 #[.val (.int p1), .val (.int p2), .val (.int p3), .val (.int p4), .val (.int p5), .val (.int p6), .val (.ref b1), .val (.int ((p5 &&& (2147483647 : Int32)) % (5 : Int32))), .val (.int ((p6 &&& (2147483647 : Int32)) % (5 : Int32))), .val (.int (own_min ((p5 &&& (2147483647 : Int32)) % (5 : Int32)) ((p6 &&& (2147483647 : Int32)) % (5 : Int32)))), .val (.int (own_max ((p5 &&& (2147483647 : Int32)) % (5 : Int32)) ((p6 &&& (2147483647 : Int32)) % (5 : Int32)))), .val (.ref b8), .unset, .unset, .unset, .unset, .unset, .unset, .unset, .unset] [(.int (0 : Int32)), (.ref b8)])) rfl (by rw [hml]; rfl) (Steps.refl _) (argsL := [(.int (0 : Int32))]) (rest := []) (lenOf pd_12 rfl) rfl (by show 2 * 0 + _ ≤ _; exact Nat.le_of_eq rfl) (hb hby at_123) (fun _ _ => ⟨rfl, e35, (by decide : 3 + 1 ≤ _), (by decide : 9 + 1 ≤ _)⟩)
  dsimp only [Pt.U, Pt.locs, Pt.cells, Pt.slots] at X39 l39 y39 z39 st39 hQ39
  rw [l39, y39, z39] at X39
  obtain ⟨r_39, rfl, Nq39, Kq39, pq39_0, pq39_1, pq39_2, pq39_3⟩ := hQ39
  refine Goes.run st39 ?_
  have N39 := Fr.app N35 Nq39
  obtain ⟨h39, e39⟩ : ∃ z, T39.heap = z := ⟨_, rfl⟩
  rw [e39] at Kq39 pq39_2 pq39_3
  have fc42 : Arv Z h35 b1 k1 .double (4 : Int32) [(.double (FP.l2d p1.toInt64)), (.double (FP.l2d p2.toInt64)), (.double (FP.l2d p3.toInt64)), (.double (FP.l2d p4.toInt64))] (.double (0 : UInt64)) := ((V29.keep Kq31 (ninS (Nat.ne_of_lt ltb1_9_it_9) nin0)).keep Kq35 (ninS (Nat.ne_of_lt ltb1_9_it_9) nin0))
  have ltb1_39_r_39 : b1 < r_39 := Nat.lt_of_lt_of_le fc42.lt pq39_0
  have ltb8_39_r_39 : b8 < r_39 := Nat.lt_of_lt_of_le fc41.lt pq39_0
  have ltit_9_39_r_39 : it_9 < r_39 := Nat.lt_of_lt_of_le pq35_0.lt pq39_0
  have Z39 : n0 ≤ h39.size := Nat.le_trans Z35 Kq39.1
  show Goes p e below s _ _ _ (T39.setTop (mkF m 126 #[.val (.int p1), .val (.int p2), .val (.int p3), .val (.int p4), .val (.int p5), .val (.int p6), .val (.ref b1), .val (.int ((p5 &&& (2147483647 : Int32)) % (5 : Int32))), .val (.int ((p6 &&& (2147483647 : Int32)) % (5 : Int32))), .val (.int (own_min ((p5 &&& (2147483647 : Int32)) % (5 : Int32)) ((p6 &&& (2147483647 : Int32)) % (5 : Int32)))), .val (.int (own_max ((p5 &&& (2147483647 : Int32)) % (5 : Int32)) ((p6 &&& (2147483647 : Int32)) % (5 : Int32)))), .val (.ref b8), .unset, .unset, .unset, .unset, .unset, .unset, .unset, .unset] [(.ref r_39)]))
  obtain ⟨cq44, kq44, qa44, qb44, qc44⟩ := isOf hZ e39 pq39_2
  obtain ⟨_, _, ⟨T43, L43, k43, n43⟩, -, X43, ⟨Lc43, hQ43, l43, y43, z43⟩, st43⟩ := X39.virtualBack hx (y := (⟨"java/lang/Double", "doubleValue", "()D"⟩ : MethodName)) (z := (⟨"java/lang/Double", "doubleValue", "()D"⟩ : MethodName)) hown (mvT hZ (hw _ (List.mem_of_getElem? (i := 59) rfl))) (mvT hZ (hw _ (List.mem_of_getElem? (i := 60) rfl))) (notFace_of_selects (args := #[]) (mvT hZ (hw _ (List.mem_of_getElem? (i := 62) rfl)))) (mvT hZ (hw _ (List.mem_of_getElem? (i := 62) rfl))) (mvT hZ (hw _ (List.mem_of_getElem? (i := 61) rfl))) (by decide) (backOf (W := 0) (rm12 l Z a0 hw [] r_39 (own_e (own_min ((p5 &&& (2147483647 : Int32)) % (5 : Int32)) ((p6 &&& (2147483647 : Int32)) % (5 : Int32))) (own_max ((p5 &&& (2147483647 : Int32)) % (5 : Int32)) ((p6 &&& (2147483647 : Int32)) % (5 : Int32))) (0 : Int32) (FP.l2d p1.toInt64) (FP.l2d p2.toInt64) (FP.l2d p3.toInt64) (FP.l2d p4.toInt64)) h39 n0 Z39 pq39_3) hZ (hw _ (List.mem_of_getElem? (i := 63) rfl)) (hw _ (List.mem_of_getElem? (i := 42) rfl)) (by decide) (by decide)) qa44 qc44 (g := (mkF m 126 #[.val (.int p1), .val (.int p2), .val (.int p3), .val (.int p4), .val (.int p5), .val (.int p6), .val (.ref b1), .val (.int ((p5 &&& (2147483647 : Int32)) % (5 : Int32))), .val (.int ((p6 &&& (2147483647 : Int32)) % (5 : Int32))), .val (.int (own_min ((p5 &&& (2147483647 : Int32)) % (5 : Int32)) ((p6 &&& (2147483647 : Int32)) % (5 : Int32)))), .val (.int (own_max ((p5 &&& (2147483647 : Int32)) % (5 : Int32)) ((p6 &&& (2147483647 : Int32)) % (5 : Int32)))), .val (.ref b8), .unset, .unset, .unset, .unset, .unset, .unset, .unset, .unset] [(.ref r_39)])) rfl (by rw [hml]; rfl) (Steps.refl _) (argsL := []) (rest := []) (lenOf pd_13 rfl) rfl (by show 2 * 0 + _ ≤ _; exact Nat.le_of_eq rfl) (hb hby at_126) (fun _ _ => ⟨rfl, e39, (by decide : 4 + 0 ≤ _), (by decide : 10 + 0 ≤ _)⟩)
  dsimp only [Pt.U, Pt.locs, Pt.cells, Pt.slots] at X43 l43 y43 z43 st43 hQ43
  rw [l43, y43, z43] at X43
  obtain ⟨rfl, Nq43, eq43⟩ := hQ43
  refine Goes.run st43 ?_
  have N43 := Fr.app N39 Nq43
  show Goes p e below s _ _ _ (T43.setTop (mkF m 129 #[.val (.int p1), .val (.int p2), .val (.int p3), .val (.int p4), .val (.int p5), .val (.int p6), .val (.ref b1), .val (.int ((p5 &&& (2147483647 : Int32)) % (5 : Int32))), .val (.int ((p6 &&& (2147483647 : Int32)) % (5 : Int32))), .val (.int (own_min ((p5 &&& (2147483647 : Int32)) % (5 : Int32)) ((p6 &&& (2147483647 : Int32)) % (5 : Int32)))), .val (.int (own_max ((p5 &&& (2147483647 : Int32)) % (5 : Int32)) ((p6 &&& (2147483647 : Int32)) % (5 : Int32)))), .val (.ref b8), .unset, .unset, .unset, .unset, .unset, .unset, .unset, .unset] [(.double (own_e (own_min ((p5 &&& (2147483647 : Int32)) % (5 : Int32)) ((p6 &&& (2147483647 : Int32)) % (5 : Int32))) (own_max ((p5 &&& (2147483647 : Int32)) % (5 : Int32)) ((p6 &&& (2147483647 : Int32)) % (5 : Int32))) (0 : Int32) (FP.l2d p1.toInt64) (FP.l2d p2.toInt64) (FP.l2d p3.toInt64) (FP.l2d p4.toInt64)))]))
  refine Goes.pre (fun t kt => XS.dstore X43.here hx rfl (hb hby at_129) rfl (l' := #[.val (.int p1), .val (.int p2), .val (.int p3), .val (.int p4), .val (.int p5), .val (.int p6), .val (.ref b1), .val (.int ((p5 &&& (2147483647 : Int32)) % (5 : Int32))), .val (.int ((p6 &&& (2147483647 : Int32)) % (5 : Int32))), .val (.int (own_min ((p5 &&& (2147483647 : Int32)) % (5 : Int32)) ((p6 &&& (2147483647 : Int32)) % (5 : Int32)))), .val (.int (own_max ((p5 &&& (2147483647 : Int32)) % (5 : Int32)) ((p6 &&& (2147483647 : Int32)) % (5 : Int32)))), .val (.ref b8), .val (.double (own_e (own_min ((p5 &&& (2147483647 : Int32)) % (5 : Int32)) ((p6 &&& (2147483647 : Int32)) % (5 : Int32))) (own_max ((p5 &&& (2147483647 : Int32)) % (5 : Int32)) ((p6 &&& (2147483647 : Int32)) % (5 : Int32))) (0 : Int32) (FP.l2d p1.toInt64) (FP.l2d p2.toInt64) (FP.l2d p3.toInt64) (FP.l2d p4.toInt64))), .second, .unset, .unset, .unset, .unset, .unset, .unset]) rfl kt) ?_
  show Goes p e below s _ _ _ (T43.setTop (mkF m 131 #[.val (.int p1), .val (.int p2), .val (.int p3), .val (.int p4), .val (.int p5), .val (.int p6), .val (.ref b1), .val (.int ((p5 &&& (2147483647 : Int32)) % (5 : Int32))), .val (.int ((p6 &&& (2147483647 : Int32)) % (5 : Int32))), .val (.int (own_min ((p5 &&& (2147483647 : Int32)) % (5 : Int32)) ((p6 &&& (2147483647 : Int32)) % (5 : Int32)))), .val (.int (own_max ((p5 &&& (2147483647 : Int32)) % (5 : Int32)) ((p6 &&& (2147483647 : Int32)) % (5 : Int32)))), .val (.ref b8), .val (.double (own_e (own_min ((p5 &&& (2147483647 : Int32)) % (5 : Int32)) ((p6 &&& (2147483647 : Int32)) % (5 : Int32))) (own_max ((p5 &&& (2147483647 : Int32)) % (5 : Int32)) ((p6 &&& (2147483647 : Int32)) % (5 : Int32))) (0 : Int32) (FP.l2d p1.toInt64) (FP.l2d p2.toInt64) (FP.l2d p3.toInt64) (FP.l2d p4.toInt64))), .second, .unset, .unset, .unset, .unset, .unset, .unset] []))
  refine Goes.pre (fun t kt => XS.aload X43.here hx rfl (hb hby at_131) rfl rfl kt) ?_
  show Goes p e below s _ _ _ (T43.setTop (mkF m 133 #[.val (.int p1), .val (.int p2), .val (.int p3), .val (.int p4), .val (.int p5), .val (.int p6), .val (.ref b1), .val (.int ((p5 &&& (2147483647 : Int32)) % (5 : Int32))), .val (.int ((p6 &&& (2147483647 : Int32)) % (5 : Int32))), .val (.int (own_min ((p5 &&& (2147483647 : Int32)) % (5 : Int32)) ((p6 &&& (2147483647 : Int32)) % (5 : Int32)))), .val (.int (own_max ((p5 &&& (2147483647 : Int32)) % (5 : Int32)) ((p6 &&& (2147483647 : Int32)) % (5 : Int32)))), .val (.ref b8), .val (.double (own_e (own_min ((p5 &&& (2147483647 : Int32)) % (5 : Int32)) ((p6 &&& (2147483647 : Int32)) % (5 : Int32))) (own_max ((p5 &&& (2147483647 : Int32)) % (5 : Int32)) ((p6 &&& (2147483647 : Int32)) % (5 : Int32))) (0 : Int32) (FP.l2d p1.toInt64) (FP.l2d p2.toInt64) (FP.l2d p3.toInt64) (FP.l2d p4.toInt64))), .second, .unset, .unset, .unset, .unset, .unset, .unset] [(.ref b8)]))
  refine Goes.pre (fun t kt => XS.iconst X43.here hx rfl (hb hby at_133) kt) ?_
  show Goes p e below s _ _ _ (T43.setTop (mkF m 134 #[.val (.int p1), .val (.int p2), .val (.int p3), .val (.int p4), .val (.int p5), .val (.int p6), .val (.ref b1), .val (.int ((p5 &&& (2147483647 : Int32)) % (5 : Int32))), .val (.int ((p6 &&& (2147483647 : Int32)) % (5 : Int32))), .val (.int (own_min ((p5 &&& (2147483647 : Int32)) % (5 : Int32)) ((p6 &&& (2147483647 : Int32)) % (5 : Int32)))), .val (.int (own_max ((p5 &&& (2147483647 : Int32)) % (5 : Int32)) ((p6 &&& (2147483647 : Int32)) % (5 : Int32)))), .val (.ref b8), .val (.double (own_e (own_min ((p5 &&& (2147483647 : Int32)) % (5 : Int32)) ((p6 &&& (2147483647 : Int32)) % (5 : Int32))) (own_max ((p5 &&& (2147483647 : Int32)) % (5 : Int32)) ((p6 &&& (2147483647 : Int32)) % (5 : Int32))) (0 : Int32) (FP.l2d p1.toInt64) (FP.l2d p2.toInt64) (FP.l2d p3.toInt64) (FP.l2d p4.toInt64))), .second, .unset, .unset, .unset, .unset, .unset, .unset] [(.int (1 : Int32)), (.ref b8)]))
  have fc45 : Fld Z h39 b8 "com/example/quantail/quantail/NumberArray" "items" "[D" (.ref it_9) := (fc38.keep Kq39 nin0)
  have fc46 : Arv Z h39 it_9 kd_9 .double (4 : Int32) [(.double (own_e (own_min ((p5 &&& (2147483647 : Int32)) % (5 : Int32)) ((p6 &&& (2147483647 : Int32)) % (5 : Int32))) (own_max ((p5 &&& (2147483647 : Int32)) % (5 : Int32)) ((p6 &&& (2147483647 : Int32)) % (5 : Int32))) (0 : Int32) (FP.l2d p1.toInt64) (FP.l2d p2.toInt64) (FP.l2d p3.toInt64) (FP.l2d p4.toInt64))), (.double (own_e (own_min ((p5 &&& (2147483647 : Int32)) % (5 : Int32)) ((p6 &&& (2147483647 : Int32)) % (5 : Int32))) (own_max ((p5 &&& (2147483647 : Int32)) % (5 : Int32)) ((p6 &&& (2147483647 : Int32)) % (5 : Int32))) (1 : Int32) (FP.l2d p1.toInt64) (FP.l2d p2.toInt64) (FP.l2d p3.toInt64) (FP.l2d p4.toInt64))), (.double (own_e (own_min ((p5 &&& (2147483647 : Int32)) % (5 : Int32)) ((p6 &&& (2147483647 : Int32)) % (5 : Int32))) (own_max ((p5 &&& (2147483647 : Int32)) % (5 : Int32)) ((p6 &&& (2147483647 : Int32)) % (5 : Int32))) (2 : Int32) (FP.l2d p1.toInt64) (FP.l2d p2.toInt64) (FP.l2d p3.toInt64) (FP.l2d p4.toInt64))), (.double (own_e (own_min ((p5 &&& (2147483647 : Int32)) % (5 : Int32)) ((p6 &&& (2147483647 : Int32)) % (5 : Int32))) (own_max ((p5 &&& (2147483647 : Int32)) % (5 : Int32)) ((p6 &&& (2147483647 : Int32)) % (5 : Int32))) (3 : Int32) (FP.l2d p1.toInt64) (FP.l2d p2.toInt64) (FP.l2d p3.toInt64) (FP.l2d p4.toInt64)))] (.double (0 : UInt64)) := (pq35_0.keep Kq39 nin0)
  have fc49 : Exa Z h39 b8 "com/example/quantail/quantail/NumberArray" := (fc41.keep Kq39)
  obtain ⟨cq48, kq48, qa48, qb48, qc48⟩ := isOf hZ eq43 fc49
  obtain ⟨_, _, ⟨T47, L47, k47, n47⟩, -, X47, ⟨Lc47, hQ47, l47, y47, z47⟩, st47⟩ := X43.virtualBack hx (y := (⟨"com/example/quantail/quantail/NumberArray", "get", "(I)Ljava/lang/Double;"⟩ : MethodName)) (z := (⟨"com/example/quantail/quantail/NumberArray", "get", "(I)Ljava/lang/Double;"⟩ : MethodName)) hown (mvT hZ (hw _ (List.mem_of_getElem? (i := 35) rfl))) (mvT hZ (hw _ (List.mem_of_getElem? (i := 36) rfl))) (notFace_of_selects (args := #[]) (mvT hZ (hw _ (List.mem_of_getElem? (i := 38) rfl)))) (mvT hZ (hw _ (List.mem_of_getElem? (i := 38) rfl))) (mvT hZ (hw _ (List.mem_of_getElem? (i := 37) rfl))) (by decide) (backOf (W := 0) (rm8_1 l Z a0 hw [] b8 it_9 kd_9 (own_e (own_min ((p5 &&& (2147483647 : Int32)) % (5 : Int32)) ((p6 &&& (2147483647 : Int32)) % (5 : Int32))) (own_max ((p5 &&& (2147483647 : Int32)) % (5 : Int32)) ((p6 &&& (2147483647 : Int32)) % (5 : Int32))) (0 : Int32) (FP.l2d p1.toInt64) (FP.l2d p2.toInt64) (FP.l2d p3.toInt64) (FP.l2d p4.toInt64)) (own_e (own_min ((p5 &&& (2147483647 : Int32)) % (5 : Int32)) ((p6 &&& (2147483647 : Int32)) % (5 : Int32))) (own_max ((p5 &&& (2147483647 : Int32)) % (5 : Int32)) ((p6 &&& (2147483647 : Int32)) % (5 : Int32))) (1 : Int32) (FP.l2d p1.toInt64) (FP.l2d p2.toInt64) (FP.l2d p3.toInt64) (FP.l2d p4.toInt64)) (own_e (own_min ((p5 &&& (2147483647 : Int32)) % (5 : Int32)) ((p6 &&& (2147483647 : Int32)) % (5 : Int32))) (own_max ((p5 &&& (2147483647 : Int32)) % (5 : Int32)) ((p6 &&& (2147483647 : Int32)) % (5 : Int32))) (2 : Int32) (FP.l2d p1.toInt64) (FP.l2d p2.toInt64) (FP.l2d p3.toInt64) (FP.l2d p4.toInt64)) (own_e (own_min ((p5 &&& (2147483647 : Int32)) % (5 : Int32)) ((p6 &&& (2147483647 : Int32)) % (5 : Int32))) (own_max ((p5 &&& (2147483647 : Int32)) % (5 : Int32)) ((p6 &&& (2147483647 : Int32)) % (5 : Int32))) (3 : Int32) (FP.l2d p1.toInt64) (FP.l2d p2.toInt64) (FP.l2d p3.toInt64) (FP.l2d p4.toInt64)) h39 n0 Z39 fc45 fc46) hZ (hw _ (List.mem_of_getElem? (i := 39) rfl)) (hw _ (List.mem_of_getElem? (i := 11) rfl)) (by decide) (by decide)) qa48 qc48 (g := (mkF m 134 #[.val (.int p1), .val (.int p2), .val (.int p3), .val (.int p4), .val (.int p5), .val (.int p6), .val (.ref b1), .val (.int ((p5 &&& (2147483647 : Int32)) % (5 : Int32))), .val (.int ((p6 &&& (2147483647 : Int32)) % (5 : Int32))), .val (.int (own_min ((p5 &&& (2147483647 : Int32)) % (5 : Int32)) ((p6 &&& (2147483647 : Int32)) % (5 : Int32)))), .val (.int (own_max ((p5 &&& (2147483647 : Int32)) % (5 : Int32)) ((p6 &&& (2147483647 : Int32)) % (5 : Int32)))), .val (.ref b8), .val (.double (own_e (own_min ((p5 &&& (2147483647 : Int32)) % (5 : Int32)) ((p6 &&& (2147483647 : Int32)) % (5 : Int32))) (own_max ((p5 &&& (2147483647 : Int32)) % (5 : Int32)) ((p6 &&& (2147483647 : Int32)) % (5 : Int32))) (0 : Int32) (FP.l2d p1.toInt64) (FP.l2d p2.toInt64) (FP.l2d p3.toInt64) (FP.l2d p4.toInt64))), .second, .unset, .unset, .unset, .unset, .unset, .unset] [(.int (1 : Int32)), (.ref b8)])) rfl (by rw [hml]; rfl) (Steps.refl _) (argsL := [(.int (1 : Int32))]) (rest := []) (lenOf pd_12 rfl) rfl (by show 2 * 0 + _ ≤ _; exact Nat.le_of_eq rfl) (hb hby at_134) (fun _ _ => ⟨rfl, eq43, (by decide : 4 + 1 ≤ _), (by decide : 10 + 1 ≤ _)⟩)
  dsimp only [Pt.U, Pt.locs, Pt.cells, Pt.slots] at X47 l47 y47 z47 st47 hQ47
  rw [l47, y47, z47] at X47
  obtain ⟨r_47, rfl, Nq47, Kq47, pq47_0, pq47_1, pq47_2, pq47_3⟩ := hQ47
  refine Goes.run st47 ?_
  have N47 := Fr.app N43 Nq47
  obtain ⟨h47, e47⟩ : ∃ z, T47.heap = z := ⟨_, rfl⟩
  rw [e47] at Kq47 pq47_2 pq47_3
  have fc50 : Arv Z h39 b1 k1 .double (4 : Int32) [(.double (FP.l2d p1.toInt64)), (.double (FP.l2d p2.toInt64)), (.double (FP.l2d p3.toInt64)), (.double (FP.l2d p4.toInt64))] (.double (0 : UInt64)) := (fc42.keep Kq39 nin0)
  have ltb1_47_r_47 : b1 < r_47 := Nat.lt_of_lt_of_le fc50.lt pq47_0
  have ltb8_47_r_47 : b8 < r_47 := Nat.lt_of_lt_of_le fc49.lt pq47_0
  have ltit_9_47_r_47 : it_9 < r_47 := Nat.lt_of_lt_of_le fc46.lt pq47_0
  have ltr_39_47_r_47 : r_39 < r_47 := Nat.lt_of_lt_of_le pq39_2.lt pq47_0
  have Z47 : n0 ≤ h47.size := Nat.le_trans Z39 Kq47.1
  show Goes p e below s _ _ _ (T47.setTop (mkF m 137 #[.val (.int p1), .val (.int p2), .val (.int p3), .val (.int p4), .val (.int p5), .val (.int p6), .val (.ref b1), .val (.int ((p5 &&& (2147483647 : Int32)) % (5 : Int32))), .val (.int ((p6 &&& (2147483647 : Int32)) % (5 : Int32))), .val (.int (own_min ((p5 &&& (2147483647 : Int32)) % (5 : Int32)) ((p6 &&& (2147483647 : Int32)) % (5 : Int32)))), .val (.int (own_max ((p5 &&& (2147483647 : Int32)) % (5 : Int32)) ((p6 &&& (2147483647 : Int32)) % (5 : Int32)))), .val (.ref b8), .val (.double (own_e (own_min ((p5 &&& (2147483647 : Int32)) % (5 : Int32)) ((p6 &&& (2147483647 : Int32)) % (5 : Int32))) (own_max ((p5 &&& (2147483647 : Int32)) % (5 : Int32)) ((p6 &&& (2147483647 : Int32)) % (5 : Int32))) (0 : Int32) (FP.l2d p1.toInt64) (FP.l2d p2.toInt64) (FP.l2d p3.toInt64) (FP.l2d p4.toInt64))), .second, .unset, .unset, .unset, .unset, .unset, .unset] [(.ref r_47)]))
  obtain ⟨cq52, kq52, qa52, qb52, qc52⟩ := isOf hZ e47 pq47_2
  obtain ⟨_, _, ⟨T51, L51, k51, n51⟩, -, X51, ⟨Lc51, hQ51, l51, y51, z51⟩, st51⟩ := X47.virtualBack hx (y := (⟨"java/lang/Double", "doubleValue", "()D"⟩ : MethodName)) (z := (⟨"java/lang/Double", "doubleValue", "()D"⟩ : MethodName)) hown (mvT hZ (hw _ (List.mem_of_getElem? (i := 59) rfl))) (mvT hZ (hw _ (List.mem_of_getElem? (i := 60) rfl))) (notFace_of_selects (args := #[]) (mvT hZ (hw _ (List.mem_of_getElem? (i := 62) rfl)))) (mvT hZ (hw _ (List.mem_of_getElem? (i := 62) rfl))) (mvT hZ (hw _ (List.mem_of_getElem? (i := 61) rfl))) (by decide) (backOf (W := 0) (rm12 l Z a0 hw [] r_47 (own_e (own_min ((p5 &&& (2147483647 : Int32)) % (5 : Int32)) ((p6 &&& (2147483647 : Int32)) % (5 : Int32))) (own_max ((p5 &&& (2147483647 : Int32)) % (5 : Int32)) ((p6 &&& (2147483647 : Int32)) % (5 : Int32))) (1 : Int32) (FP.l2d p1.toInt64) (FP.l2d p2.toInt64) (FP.l2d p3.toInt64) (FP.l2d p4.toInt64)) h47 n0 Z47 pq47_3) hZ (hw _ (List.mem_of_getElem? (i := 63) rfl)) (hw _ (List.mem_of_getElem? (i := 42) rfl)) (by decide) (by decide)) qa52 qc52 (g := (mkF m 137 #[.val (.int p1), .val (.int p2), .val (.int p3), .val (.int p4), .val (.int p5), .val (.int p6), .val (.ref b1), .val (.int ((p5 &&& (2147483647 : Int32)) % (5 : Int32))), .val (.int ((p6 &&& (2147483647 : Int32)) % (5 : Int32))), .val (.int (own_min ((p5 &&& (2147483647 : Int32)) % (5 : Int32)) ((p6 &&& (2147483647 : Int32)) % (5 : Int32)))), .val (.int (own_max ((p5 &&& (2147483647 : Int32)) % (5 : Int32)) ((p6 &&& (2147483647 : Int32)) % (5 : Int32)))), .val (.ref b8), .val (.double (own_e (own_min ((p5 &&& (2147483647 : Int32)) % (5 : Int32)) ((p6 &&& (2147483647 : Int32)) % (5 : Int32))) (own_max ((p5 &&& (2147483647 : Int32)) % (5 : Int32)) ((p6 &&& (2147483647 : Int32)) % (5 : Int32))) (0 : Int32) (FP.l2d p1.toInt64) (FP.l2d p2.toInt64) (FP.l2d p3.toInt64) (FP.l2d p4.toInt64))), .second, .unset, .unset, .unset, .unset, .unset, .unset] [(.ref r_47)])) rfl (by rw [hml]; rfl) (Steps.refl _) (argsL := []) (rest := []) (lenOf pd_13 rfl) rfl (by show 2 * 0 + _ ≤ _; exact Nat.le_of_eq rfl) (hb hby at_137) (fun _ _ => ⟨rfl, e47, (by decide : 5 + 0 ≤ _), (by decide : 11 + 0 ≤ _)⟩)
  dsimp only [Pt.U, Pt.locs, Pt.cells, Pt.slots] at X51 l51 y51 z51 st51 hQ51
  rw [l51, y51, z51] at X51
  obtain ⟨rfl, Nq51, eq51⟩ := hQ51
  refine Goes.run st51 ?_
  have N51 := Fr.app N47 Nq51
  show Goes p e below s _ _ _ (T51.setTop (mkF m 140 #[.val (.int p1), .val (.int p2), .val (.int p3), .val (.int p4), .val (.int p5), .val (.int p6), .val (.ref b1), .val (.int ((p5 &&& (2147483647 : Int32)) % (5 : Int32))), .val (.int ((p6 &&& (2147483647 : Int32)) % (5 : Int32))), .val (.int (own_min ((p5 &&& (2147483647 : Int32)) % (5 : Int32)) ((p6 &&& (2147483647 : Int32)) % (5 : Int32)))), .val (.int (own_max ((p5 &&& (2147483647 : Int32)) % (5 : Int32)) ((p6 &&& (2147483647 : Int32)) % (5 : Int32)))), .val (.ref b8), .val (.double (own_e (own_min ((p5 &&& (2147483647 : Int32)) % (5 : Int32)) ((p6 &&& (2147483647 : Int32)) % (5 : Int32))) (own_max ((p5 &&& (2147483647 : Int32)) % (5 : Int32)) ((p6 &&& (2147483647 : Int32)) % (5 : Int32))) (0 : Int32) (FP.l2d p1.toInt64) (FP.l2d p2.toInt64) (FP.l2d p3.toInt64) (FP.l2d p4.toInt64))), .second, .unset, .unset, .unset, .unset, .unset, .unset] [(.double (own_e (own_min ((p5 &&& (2147483647 : Int32)) % (5 : Int32)) ((p6 &&& (2147483647 : Int32)) % (5 : Int32))) (own_max ((p5 &&& (2147483647 : Int32)) % (5 : Int32)) ((p6 &&& (2147483647 : Int32)) % (5 : Int32))) (1 : Int32) (FP.l2d p1.toInt64) (FP.l2d p2.toInt64) (FP.l2d p3.toInt64) (FP.l2d p4.toInt64)))]))
  refine Goes.pre (fun t kt => XS.dstore X51.here hx rfl (hb hby at_140) rfl (l' := #[.val (.int p1), .val (.int p2), .val (.int p3), .val (.int p4), .val (.int p5), .val (.int p6), .val (.ref b1), .val (.int ((p5 &&& (2147483647 : Int32)) % (5 : Int32))), .val (.int ((p6 &&& (2147483647 : Int32)) % (5 : Int32))), .val (.int (own_min ((p5 &&& (2147483647 : Int32)) % (5 : Int32)) ((p6 &&& (2147483647 : Int32)) % (5 : Int32)))), .val (.int (own_max ((p5 &&& (2147483647 : Int32)) % (5 : Int32)) ((p6 &&& (2147483647 : Int32)) % (5 : Int32)))), .val (.ref b8), .val (.double (own_e (own_min ((p5 &&& (2147483647 : Int32)) % (5 : Int32)) ((p6 &&& (2147483647 : Int32)) % (5 : Int32))) (own_max ((p5 &&& (2147483647 : Int32)) % (5 : Int32)) ((p6 &&& (2147483647 : Int32)) % (5 : Int32))) (0 : Int32) (FP.l2d p1.toInt64) (FP.l2d p2.toInt64) (FP.l2d p3.toInt64) (FP.l2d p4.toInt64))), .second, .val (.double (own_e (own_min ((p5 &&& (2147483647 : Int32)) % (5 : Int32)) ((p6 &&& (2147483647 : Int32)) % (5 : Int32))) (own_max ((p5 &&& (2147483647 : Int32)) % (5 : Int32)) ((p6 &&& (2147483647 : Int32)) % (5 : Int32))) (1 : Int32) (FP.l2d p1.toInt64) (FP.l2d p2.toInt64) (FP.l2d p3.toInt64) (FP.l2d p4.toInt64))), .second, .unset, .unset, .unset, .unset]) rfl kt) ?_
  show Goes p e below s _ _ _ (T51.setTop (mkF m 142 #[.val (.int p1), .val (.int p2), .val (.int p3), .val (.int p4), .val (.int p5), .val (.int p6), .val (.ref b1), .val (.int ((p5 &&& (2147483647 : Int32)) % (5 : Int32))), .val (.int ((p6 &&& (2147483647 : Int32)) % (5 : Int32))), .val (.int (own_min ((p5 &&& (2147483647 : Int32)) % (5 : Int32)) ((p6 &&& (2147483647 : Int32)) % (5 : Int32)))), .val (.int (own_max ((p5 &&& (2147483647 : Int32)) % (5 : Int32)) ((p6 &&& (2147483647 : Int32)) % (5 : Int32)))), .val (.ref b8), .val (.double (own_e (own_min ((p5 &&& (2147483647 : Int32)) % (5 : Int32)) ((p6 &&& (2147483647 : Int32)) % (5 : Int32))) (own_max ((p5 &&& (2147483647 : Int32)) % (5 : Int32)) ((p6 &&& (2147483647 : Int32)) % (5 : Int32))) (0 : Int32) (FP.l2d p1.toInt64) (FP.l2d p2.toInt64) (FP.l2d p3.toInt64) (FP.l2d p4.toInt64))), .second, .val (.double (own_e (own_min ((p5 &&& (2147483647 : Int32)) % (5 : Int32)) ((p6 &&& (2147483647 : Int32)) % (5 : Int32))) (own_max ((p5 &&& (2147483647 : Int32)) % (5 : Int32)) ((p6 &&& (2147483647 : Int32)) % (5 : Int32))) (1 : Int32) (FP.l2d p1.toInt64) (FP.l2d p2.toInt64) (FP.l2d p3.toInt64) (FP.l2d p4.toInt64))), .second, .unset, .unset, .unset, .unset] []))
  refine Goes.pre (fun t kt => XS.aload X51.here hx rfl (hb hby at_142) rfl rfl kt) ?_
  show Goes p e below s _ _ _ (T51.setTop (mkF m 144 #[.val (.int p1), .val (.int p2), .val (.int p3), .val (.int p4), .val (.int p5), .val (.int p6), .val (.ref b1), .val (.int ((p5 &&& (2147483647 : Int32)) % (5 : Int32))), .val (.int ((p6 &&& (2147483647 : Int32)) % (5 : Int32))), .val (.int (own_min ((p5 &&& (2147483647 : Int32)) % (5 : Int32)) ((p6 &&& (2147483647 : Int32)) % (5 : Int32)))), .val (.int (own_max ((p5 &&& (2147483647 : Int32)) % (5 : Int32)) ((p6 &&& (2147483647 : Int32)) % (5 : Int32)))), .val (.ref b8), .val (.double (own_e (own_min ((p5 &&& (2147483647 : Int32)) % (5 : Int32)) ((p6 &&& (2147483647 : Int32)) % (5 : Int32))) (own_max ((p5 &&& (2147483647 : Int32)) % (5 : Int32)) ((p6 &&& (2147483647 : Int32)) % (5 : Int32))) (0 : Int32) (FP.l2d p1.toInt64) (FP.l2d p2.toInt64) (FP.l2d p3.toInt64) (FP.l2d p4.toInt64))), .second, .val (.double (own_e (own_min ((p5 &&& (2147483647 : Int32)) % (5 : Int32)) ((p6 &&& (2147483647 : Int32)) % (5 : Int32))) (own_max ((p5 &&& (2147483647 : Int32)) % (5 : Int32)) ((p6 &&& (2147483647 : Int32)) % (5 : Int32))) (1 : Int32) (FP.l2d p1.toInt64) (FP.l2d p2.toInt64) (FP.l2d p3.toInt64) (FP.l2d p4.toInt64))), .second, .unset, .unset, .unset, .unset] [(.ref b8)]))
  refine Goes.pre (fun t kt => XS.iconst X51.here hx rfl (hb hby at_144) kt) ?_
  show Goes p e below s _ _ _ (T51.setTop (mkF m 145 #[.val (.int p1), .val (.int p2), .val (.int p3), .val (.int p4), .val (.int p5), .val (.int p6), .val (.ref b1), .val (.int ((p5 &&& (2147483647 : Int32)) % (5 : Int32))), .val (.int ((p6 &&& (2147483647 : Int32)) % (5 : Int32))), .val (.int (own_min ((p5 &&& (2147483647 : Int32)) % (5 : Int32)) ((p6 &&& (2147483647 : Int32)) % (5 : Int32)))), .val (.int (own_max ((p5 &&& (2147483647 : Int32)) % (5 : Int32)) ((p6 &&& (2147483647 : Int32)) % (5 : Int32)))), .val (.ref b8), .val (.double (own_e (own_min ((p5 &&& (2147483647 : Int32)) % (5 : Int32)) ((p6 &&& (2147483647 : Int32)) % (5 : Int32))) (own_max ((p5 &&& (2147483647 : Int32)) % (5 : Int32)) ((p6 &&& (2147483647 : Int32)) % (5 : Int32))) (0 : Int32) (FP.l2d p1.toInt64) (FP.l2d p2.toInt64) (FP.l2d p3.toInt64) (FP.l2d p4.toInt64))), .second, .val (.double (own_e (own_min ((p5 &&& (2147483647 : Int32)) % (5 : Int32)) ((p6 &&& (2147483647 : Int32)) % (5 : Int32))) (own_max ((p5 &&& (2147483647 : Int32)) % (5 : Int32)) ((p6 &&& (2147483647 : Int32)) % (5 : Int32))) (1 : Int32) (FP.l2d p1.toInt64) (FP.l2d p2.toInt64) (FP.l2d p3.toInt64) (FP.l2d p4.toInt64))), .second, .unset, .unset, .unset, .unset] [(.int (2 : Int32)), (.ref b8)]))
  have fc53 : Fld Z h47 b8 "com/example/quantail/quantail/NumberArray" "items" "[D" (.ref it_9) := (fc45.keep Kq47 nin0)
  have fc54 : Arv Z h47 it_9 kd_9 .double (4 : Int32) [(.double (own_e (own_min ((p5 &&& (2147483647 : Int32)) % (5 : Int32)) ((p6 &&& (2147483647 : Int32)) % (5 : Int32))) (own_max ((p5 &&& (2147483647 : Int32)) % (5 : Int32)) ((p6 &&& (2147483647 : Int32)) % (5 : Int32))) (0 : Int32) (FP.l2d p1.toInt64) (FP.l2d p2.toInt64) (FP.l2d p3.toInt64) (FP.l2d p4.toInt64))), (.double (own_e (own_min ((p5 &&& (2147483647 : Int32)) % (5 : Int32)) ((p6 &&& (2147483647 : Int32)) % (5 : Int32))) (own_max ((p5 &&& (2147483647 : Int32)) % (5 : Int32)) ((p6 &&& (2147483647 : Int32)) % (5 : Int32))) (1 : Int32) (FP.l2d p1.toInt64) (FP.l2d p2.toInt64) (FP.l2d p3.toInt64) (FP.l2d p4.toInt64))), (.double (own_e (own_min ((p5 &&& (2147483647 : Int32)) % (5 : Int32)) ((p6 &&& (2147483647 : Int32)) % (5 : Int32))) (own_max ((p5 &&& (2147483647 : Int32)) % (5 : Int32)) ((p6 &&& (2147483647 : Int32)) % (5 : Int32))) (2 : Int32) (FP.l2d p1.toInt64) (FP.l2d p2.toInt64) (FP.l2d p3.toInt64) (FP.l2d p4.toInt64))), (.double (own_e (own_min ((p5 &&& (2147483647 : Int32)) % (5 : Int32)) ((p6 &&& (2147483647 : Int32)) % (5 : Int32))) (own_max ((p5 &&& (2147483647 : Int32)) % (5 : Int32)) ((p6 &&& (2147483647 : Int32)) % (5 : Int32))) (3 : Int32) (FP.l2d p1.toInt64) (FP.l2d p2.toInt64) (FP.l2d p3.toInt64) (FP.l2d p4.toInt64)))] (.double (0 : UInt64)) := (fc46.keep Kq47 nin0)
  have fc57 : Exa Z h47 b8 "com/example/quantail/quantail/NumberArray" := (fc49.keep Kq47)
  obtain ⟨cq56, kq56, qa56, qb56, qc56⟩ := isOf hZ eq51 fc57
  obtain ⟨_, _, ⟨T55, L55, k55, n55⟩, -, X55, ⟨Lc55, hQ55, l55, y55, z55⟩, st55⟩ := X51.virtualBack hx (y := (⟨"com/example/quantail/quantail/NumberArray", "get", "(I)Ljava/lang/Double;"⟩ : MethodName)) (z := (⟨"com/example/quantail/quantail/NumberArray", "get", "(I)Ljava/lang/Double;"⟩ : MethodName)) hown (mvT hZ (hw _ (List.mem_of_getElem? (i := 35) rfl))) (mvT hZ (hw _ (List.mem_of_getElem? (i := 36) rfl))) (notFace_of_selects (args := #[]) (mvT hZ (hw _ (List.mem_of_getElem? (i := 38) rfl)))) (mvT hZ (hw _ (List.mem_of_getElem? (i := 38) rfl))) (mvT hZ (hw _ (List.mem_of_getElem? (i := 37) rfl))) (by decide) (backOf (W := 0) (rm8_2 l Z a0 hw [] b8 it_9 kd_9 (own_e (own_min ((p5 &&& (2147483647 : Int32)) % (5 : Int32)) ((p6 &&& (2147483647 : Int32)) % (5 : Int32))) (own_max ((p5 &&& (2147483647 : Int32)) % (5 : Int32)) ((p6 &&& (2147483647 : Int32)) % (5 : Int32))) (0 : Int32) (FP.l2d p1.toInt64) (FP.l2d p2.toInt64) (FP.l2d p3.toInt64) (FP.l2d p4.toInt64)) (own_e (own_min ((p5 &&& (2147483647 : Int32)) % (5 : Int32)) ((p6 &&& (2147483647 : Int32)) % (5 : Int32))) (own_max ((p5 &&& (2147483647 : Int32)) % (5 : Int32)) ((p6 &&& (2147483647 : Int32)) % (5 : Int32))) (1 : Int32) (FP.l2d p1.toInt64) (FP.l2d p2.toInt64) (FP.l2d p3.toInt64) (FP.l2d p4.toInt64)) (own_e (own_min ((p5 &&& (2147483647 : Int32)) % (5 : Int32)) ((p6 &&& (2147483647 : Int32)) % (5 : Int32))) (own_max ((p5 &&& (2147483647 : Int32)) % (5 : Int32)) ((p6 &&& (2147483647 : Int32)) % (5 : Int32))) (2 : Int32) (FP.l2d p1.toInt64) (FP.l2d p2.toInt64) (FP.l2d p3.toInt64) (FP.l2d p4.toInt64)) (own_e (own_min ((p5 &&& (2147483647 : Int32)) % (5 : Int32)) ((p6 &&& (2147483647 : Int32)) % (5 : Int32))) (own_max ((p5 &&& (2147483647 : Int32)) % (5 : Int32)) ((p6 &&& (2147483647 : Int32)) % (5 : Int32))) (3 : Int32) (FP.l2d p1.toInt64) (FP.l2d p2.toInt64) (FP.l2d p3.toInt64) (FP.l2d p4.toInt64)) h47 n0 Z47 fc53 fc54) hZ (hw _ (List.mem_of_getElem? (i := 39) rfl)) (hw _ (List.mem_of_getElem? (i := 11) rfl)) (by decide) (by decide)) qa56 qc56 (g := (mkF m 145 #[.val (.int p1), .val (.int p2), .val (.int p3), .val (.int p4), .val (.int p5), .val (.int p6), .val (.ref b1), .val (.int ((p5 &&& (2147483647 : Int32)) % (5 : Int32))), .val (.int ((p6 &&& (2147483647 : Int32)) % (5 : Int32))), .val (.int (own_min ((p5 &&& (2147483647 : Int32)) % (5 : Int32)) ((p6 &&& (2147483647 : Int32)) % (5 : Int32)))), .val (.int (own_max ((p5 &&& (2147483647 : Int32)) % (5 : Int32)) ((p6 &&& (2147483647 : Int32)) % (5 : Int32)))), .val (.ref b8), .val (.double (own_e (own_min ((p5 &&& (2147483647 : Int32)) % (5 : Int32)) ((p6 &&& (2147483647 : Int32)) % (5 : Int32))) (own_max ((p5 &&& (2147483647 : Int32)) % (5 : Int32)) ((p6 &&& (2147483647 : Int32)) % (5 : Int32))) (0 : Int32) (FP.l2d p1.toInt64) (FP.l2d p2.toInt64) (FP.l2d p3.toInt64) (FP.l2d p4.toInt64))), .second, .val (.double (own_e (own_min ((p5 &&& (2147483647 : Int32)) % (5 : Int32)) ((p6 &&& (2147483647 : Int32)) % (5 : Int32))) (own_max ((p5 &&& (2147483647 : Int32)) % (5 : Int32)) ((p6 &&& (2147483647 : Int32)) % (5 : Int32))) (1 : Int32) (FP.l2d p1.toInt64) (FP.l2d p2.toInt64) (FP.l2d p3.toInt64) (FP.l2d p4.toInt64))), .second, .unset, .unset, .unset, .unset] [(.int (2 : Int32)), (.ref b8)])) rfl (by rw [hml]; rfl) (Steps.refl _) (argsL := [(.int (2 : Int32))]) (rest := []) (lenOf pd_12 rfl) rfl (by show 2 * 0 + _ ≤ _; exact Nat.le_of_eq rfl) (hb hby at_145) (fun _ _ => ⟨rfl, eq51, (by decide : 5 + 1 ≤ _), (by decide : 11 + 1 ≤ _)⟩)
  dsimp only [Pt.U, Pt.locs, Pt.cells, Pt.slots] at X55 l55 y55 z55 st55 hQ55
  rw [l55, y55, z55] at X55
  obtain ⟨r_55, rfl, Nq55, Kq55, pq55_0, pq55_1, pq55_2, pq55_3⟩ := hQ55
  refine Goes.run st55 ?_
  have N55 := Fr.app N51 Nq55
  obtain ⟨h55, e55⟩ : ∃ z, T55.heap = z := ⟨_, rfl⟩
  rw [e55] at Kq55 pq55_2 pq55_3
  have fc58 : Arv Z h47 b1 k1 .double (4 : Int32) [(.double (FP.l2d p1.toInt64)), (.double (FP.l2d p2.toInt64)), (.double (FP.l2d p3.toInt64)), (.double (FP.l2d p4.toInt64))] (.double (0 : UInt64)) := (fc50.keep Kq47 nin0)
  have ltb1_55_r_55 : b1 < r_55 := Nat.lt_of_lt_of_le fc58.lt pq55_0
  have ltb8_55_r_55 : b8 < r_55 := Nat.lt_of_lt_of_le fc57.lt pq55_0
  have ltit_9_55_r_55 : it_9 < r_55 := Nat.lt_of_lt_of_le fc54.lt pq55_0
  have fc59 : Exa Z h47 r_39 "java/lang/Double" := (pq39_2.keep Kq47)
  have ltr_39_55_r_55 : r_39 < r_55 := Nat.lt_of_lt_of_le fc59.lt pq55_0
  have ltr_47_55_r_55 : r_47 < r_55 := Nat.lt_of_lt_of_le pq47_2.lt pq55_0
  have Z55 : n0 ≤ h55.size := Nat.le_trans Z47 Kq55.1
  show Goes p e below s _ _ _ (T55.setTop (mkF m 148 #[.val (.int p1), .val (.int p2), .val (.int p3), .val (.int p4), .val (.int p5), .val (.int p6), .val (.ref b1), .val (.int ((p5 &&& (2147483647 : Int32)) % (5 : Int32))), .val (.int ((p6 &&& (2147483647 : Int32)) % (5 : Int32))), .val (.int (own_min ((p5 &&& (2147483647 : Int32)) % (5 : Int32)) ((p6 &&& (2147483647 : Int32)) % (5 : Int32)))), .val (.int (own_max ((p5 &&& (2147483647 : Int32)) % (5 : Int32)) ((p6 &&& (2147483647 : Int32)) % (5 : Int32)))), .val (.ref b8), .val (.double (own_e (own_min ((p5 &&& (2147483647 : Int32)) % (5 : Int32)) ((p6 &&& (2147483647 : Int32)) % (5 : Int32))) (own_max ((p5 &&& (2147483647 : Int32)) % (5 : Int32)) ((p6 &&& (2147483647 : Int32)) % (5 : Int32))) (0 : Int32) (FP.l2d p1.toInt64) (FP.l2d p2.toInt64) (FP.l2d p3.toInt64) (FP.l2d p4.toInt64))), .second, .val (.double (own_e (own_min ((p5 &&& (2147483647 : Int32)) % (5 : Int32)) ((p6 &&& (2147483647 : Int32)) % (5 : Int32))) (own_max ((p5 &&& (2147483647 : Int32)) % (5 : Int32)) ((p6 &&& (2147483647 : Int32)) % (5 : Int32))) (1 : Int32) (FP.l2d p1.toInt64) (FP.l2d p2.toInt64) (FP.l2d p3.toInt64) (FP.l2d p4.toInt64))), .second, .unset, .unset, .unset, .unset] [(.ref r_55)]))
  obtain ⟨cq61, kq61, qa61, qb61, qc61⟩ := isOf hZ e55 pq55_2
  obtain ⟨_, _, ⟨T60, L60, k60, n60⟩, -, X60, ⟨Lc60, hQ60, l60, y60, z60⟩, st60⟩ := X55.virtualBack hx (y := (⟨"java/lang/Double", "doubleValue", "()D"⟩ : MethodName)) (z := (⟨"java/lang/Double", "doubleValue", "()D"⟩ : MethodName)) hown (mvT hZ (hw _ (List.mem_of_getElem? (i := 59) rfl))) (mvT hZ (hw _ (List.mem_of_getElem? (i := 60) rfl))) (notFace_of_selects (args := #[]) (mvT hZ (hw _ (List.mem_of_getElem? (i := 62) rfl)))) (mvT hZ (hw _ (List.mem_of_getElem? (i := 62) rfl))) (mvT hZ (hw _ (List.mem_of_getElem? (i := 61) rfl))) (by decide) (backOf (W := 0) (rm12 l Z a0 hw [] r_55 (own_e (own_min ((p5 &&& (2147483647 : Int32)) % (5 : Int32)) ((p6 &&& (2147483647 : Int32)) % (5 : Int32))) (own_max ((p5 &&& (2147483647 : Int32)) % (5 : Int32)) ((p6 &&& (2147483647 : Int32)) % (5 : Int32))) (2 : Int32) (FP.l2d p1.toInt64) (FP.l2d p2.toInt64) (FP.l2d p3.toInt64) (FP.l2d p4.toInt64)) h55 n0 Z55 pq55_3) hZ (hw _ (List.mem_of_getElem? (i := 63) rfl)) (hw _ (List.mem_of_getElem? (i := 42) rfl)) (by decide) (by decide)) qa61 qc61 (g := (mkF m 148 #[.val (.int p1), .val (.int p2), .val (.int p3), .val (.int p4), .val (.int p5), .val (.int p6), .val (.ref b1), .val (.int ((p5 &&& (2147483647 : Int32)) % (5 : Int32))), .val (.int ((p6 &&& (2147483647 : Int32)) % (5 : Int32))), .val (.int (own_min ((p5 &&& (2147483647 : Int32)) % (5 : Int32)) ((p6 &&& (2147483647 : Int32)) % (5 : Int32)))), .val (.int (own_max ((p5 &&& (2147483647 : Int32)) % (5 : Int32)) ((p6 &&& (2147483647 : Int32)) % (5 : Int32)))), .val (.ref b8), .val (.double (own_e (own_min ((p5 &&& (2147483647 : Int32)) % (5 : Int32)) ((p6 &&& (2147483647 : Int32)) % (5 : Int32))) (own_max ((p5 &&& (2147483647 : Int32)) % (5 : Int32)) ((p6 &&& (2147483647 : Int32)) % (5 : Int32))) (0 : Int32) (FP.l2d p1.toInt64) (FP.l2d p2.toInt64) (FP.l2d p3.toInt64) (FP.l2d p4.toInt64))), .second, .val (.double (own_e (own_min ((p5 &&& (2147483647 : Int32)) % (5 : Int32)) ((p6 &&& (2147483647 : Int32)) % (5 : Int32))) (own_max ((p5 &&& (2147483647 : Int32)) % (5 : Int32)) ((p6 &&& (2147483647 : Int32)) % (5 : Int32))) (1 : Int32) (FP.l2d p1.toInt64) (FP.l2d p2.toInt64) (FP.l2d p3.toInt64) (FP.l2d p4.toInt64))), .second, .unset, .unset, .unset, .unset] [(.ref r_55)])) rfl (by rw [hml]; rfl) (Steps.refl _) (argsL := []) (rest := []) (lenOf pd_13 rfl) rfl (by show 2 * 0 + _ ≤ _; exact Nat.le_of_eq rfl) (hb hby at_148) (fun _ _ => ⟨rfl, e55, (by decide : 6 + 0 ≤ _), (by decide : 12 + 0 ≤ _)⟩)
  dsimp only [Pt.U, Pt.locs, Pt.cells, Pt.slots] at X60 l60 y60 z60 st60 hQ60
  rw [l60, y60, z60] at X60
  obtain ⟨rfl, Nq60, eq60⟩ := hQ60
  refine Goes.run st60 ?_
  have N60 := Fr.app N55 Nq60
  show Goes p e below s _ _ _ (T60.setTop (mkF m 151 #[.val (.int p1), .val (.int p2), .val (.int p3), .val (.int p4), .val (.int p5), .val (.int p6), .val (.ref b1), .val (.int ((p5 &&& (2147483647 : Int32)) % (5 : Int32))), .val (.int ((p6 &&& (2147483647 : Int32)) % (5 : Int32))), .val (.int (own_min ((p5 &&& (2147483647 : Int32)) % (5 : Int32)) ((p6 &&& (2147483647 : Int32)) % (5 : Int32)))), .val (.int (own_max ((p5 &&& (2147483647 : Int32)) % (5 : Int32)) ((p6 &&& (2147483647 : Int32)) % (5 : Int32)))), .val (.ref b8), .val (.double (own_e (own_min ((p5 &&& (2147483647 : Int32)) % (5 : Int32)) ((p6 &&& (2147483647 : Int32)) % (5 : Int32))) (own_max ((p5 &&& (2147483647 : Int32)) % (5 : Int32)) ((p6 &&& (2147483647 : Int32)) % (5 : Int32))) (0 : Int32) (FP.l2d p1.toInt64) (FP.l2d p2.toInt64) (FP.l2d p3.toInt64) (FP.l2d p4.toInt64))), .second, .val (.double (own_e (own_min ((p5 &&& (2147483647 : Int32)) % (5 : Int32)) ((p6 &&& (2147483647 : Int32)) % (5 : Int32))) (own_max ((p5 &&& (2147483647 : Int32)) % (5 : Int32)) ((p6 &&& (2147483647 : Int32)) % (5 : Int32))) (1 : Int32) (FP.l2d p1.toInt64) (FP.l2d p2.toInt64) (FP.l2d p3.toInt64) (FP.l2d p4.toInt64))), .second, .unset, .unset, .unset, .unset] [(.double (own_e (own_min ((p5 &&& (2147483647 : Int32)) % (5 : Int32)) ((p6 &&& (2147483647 : Int32)) % (5 : Int32))) (own_max ((p5 &&& (2147483647 : Int32)) % (5 : Int32)) ((p6 &&& (2147483647 : Int32)) % (5 : Int32))) (2 : Int32) (FP.l2d p1.toInt64) (FP.l2d p2.toInt64) (FP.l2d p3.toInt64) (FP.l2d p4.toInt64)))]))
  refine Goes.pre (fun t kt => XS.dstore X60.here hx rfl (hb hby at_151) rfl (l' := #[.val (.int p1), .val (.int p2), .val (.int p3), .val (.int p4), .val (.int p5), .val (.int p6), .val (.ref b1), .val (.int ((p5 &&& (2147483647 : Int32)) % (5 : Int32))), .val (.int ((p6 &&& (2147483647 : Int32)) % (5 : Int32))), .val (.int (own_min ((p5 &&& (2147483647 : Int32)) % (5 : Int32)) ((p6 &&& (2147483647 : Int32)) % (5 : Int32)))), .val (.int (own_max ((p5 &&& (2147483647 : Int32)) % (5 : Int32)) ((p6 &&& (2147483647 : Int32)) % (5 : Int32)))), .val (.ref b8), .val (.double (own_e (own_min ((p5 &&& (2147483647 : Int32)) % (5 : Int32)) ((p6 &&& (2147483647 : Int32)) % (5 : Int32))) (own_max ((p5 &&& (2147483647 : Int32)) % (5 : Int32)) ((p6 &&& (2147483647 : Int32)) % (5 : Int32))) (0 : Int32) (FP.l2d p1.toInt64) (FP.l2d p2.toInt64) (FP.l2d p3.toInt64) (FP.l2d p4.toInt64))), .second, .val (.double (own_e (own_min ((p5 &&& (2147483647 : Int32)) % (5 : Int32)) ((p6 &&& (2147483647 : Int32)) % (5 : Int32))) (own_max ((p5 &&& (2147483647 : Int32)) % (5 : Int32)) ((p6 &&& (2147483647 : Int32)) % (5 : Int32))) (1 : Int32) (FP.l2d p1.toInt64) (FP.l2d p2.toInt64) (FP.l2d p3.toInt64) (FP.l2d p4.toInt64))), .second, .val (.double (own_e (own_min ((p5 &&& (2147483647 : Int32)) % (5 : Int32)) ((p6 &&& (2147483647 : Int32)) % (5 : Int32))) (own_max ((p5 &&& (2147483647 : Int32)) % (5 : Int32)) ((p6 &&& (2147483647 : Int32)) % (5 : Int32))) (2 : Int32) (FP.l2d p1.toInt64) (FP.l2d p2.toInt64) (FP.l2d p3.toInt64) (FP.l2d p4.toInt64))), .second, .unset, .unset]) rfl kt) ?_
  show Goes p e below s _ _ _ (T60.setTop (mkF m 153 #[.val (.int p1), .val (.int p2), .val (.int p3), .val (.int p4), .val (.int p5), .val (.int p6), .val (.ref b1), .val (.int ((p5 &&& (2147483647 : Int32)) % (5 : Int32))), .val (.int ((p6 &&& (2147483647 : Int32)) % (5 : Int32))), .val (.int (own_min ((p5 &&& (2147483647 : Int32)) % (5 : Int32)) ((p6 &&& (2147483647 : Int32)) % (5 : Int32)))), .val (.int (own_max ((p5 &&& (2147483647 : Int32)) % (5 : Int32)) ((p6 &&& (2147483647 : Int32)) % (5 : Int32)))), .val (.ref b8), .val (.double (own_e (own_min ((p5 &&& (2147483647 : Int32)) % (5 : Int32)) ((p6 &&& (2147483647 : Int32)) % (5 : Int32))) (own_max ((p5 &&& (2147483647 : Int32)) % (5 : Int32)) ((p6 &&& (2147483647 : Int32)) % (5 : Int32))) (0 : Int32) (FP.l2d p1.toInt64) (FP.l2d p2.toInt64) (FP.l2d p3.toInt64) (FP.l2d p4.toInt64))), .second, .val (.double (own_e (own_min ((p5 &&& (2147483647 : Int32)) % (5 : Int32)) ((p6 &&& (2147483647 : Int32)) % (5 : Int32))) (own_max ((p5 &&& (2147483647 : Int32)) % (5 : Int32)) ((p6 &&& (2147483647 : Int32)) % (5 : Int32))) (1 : Int32) (FP.l2d p1.toInt64) (FP.l2d p2.toInt64) (FP.l2d p3.toInt64) (FP.l2d p4.toInt64))), .second, .val (.double (own_e (own_min ((p5 &&& (2147483647 : Int32)) % (5 : Int32)) ((p6 &&& (2147483647 : Int32)) % (5 : Int32))) (own_max ((p5 &&& (2147483647 : Int32)) % (5 : Int32)) ((p6 &&& (2147483647 : Int32)) % (5 : Int32))) (2 : Int32) (FP.l2d p1.toInt64) (FP.l2d p2.toInt64) (FP.l2d p3.toInt64) (FP.l2d p4.toInt64))), .second, .unset, .unset] []))
  refine Goes.pre (fun t kt => XS.aload X60.here hx rfl (hb hby at_153) rfl rfl kt) ?_
  show Goes p e below s _ _ _ (T60.setTop (mkF m 155 #[.val (.int p1), .val (.int p2), .val (.int p3), .val (.int p4), .val (.int p5), .val (.int p6), .val (.ref b1), .val (.int ((p5 &&& (2147483647 : Int32)) % (5 : Int32))), .val (.int ((p6 &&& (2147483647 : Int32)) % (5 : Int32))), .val (.int (own_min ((p5 &&& (2147483647 : Int32)) % (5 : Int32)) ((p6 &&& (2147483647 : Int32)) % (5 : Int32)))), .val (.int (own_max ((p5 &&& (2147483647 : Int32)) % (5 : Int32)) ((p6 &&& (2147483647 : Int32)) % (5 : Int32)))), .val (.ref b8), .val (.double (own_e (own_min ((p5 &&& (2147483647 : Int32)) % (5 : Int32)) ((p6 &&& (2147483647 : Int32)) % (5 : Int32))) (own_max ((p5 &&& (2147483647 : Int32)) % (5 : Int32)) ((p6 &&& (2147483647 : Int32)) % (5 : Int32))) (0 : Int32) (FP.l2d p1.toInt64) (FP.l2d p2.toInt64) (FP.l2d p3.toInt64) (FP.l2d p4.toInt64))), .second, .val (.double (own_e (own_min ((p5 &&& (2147483647 : Int32)) % (5 : Int32)) ((p6 &&& (2147483647 : Int32)) % (5 : Int32))) (own_max ((p5 &&& (2147483647 : Int32)) % (5 : Int32)) ((p6 &&& (2147483647 : Int32)) % (5 : Int32))) (1 : Int32) (FP.l2d p1.toInt64) (FP.l2d p2.toInt64) (FP.l2d p3.toInt64) (FP.l2d p4.toInt64))), .second, .val (.double (own_e (own_min ((p5 &&& (2147483647 : Int32)) % (5 : Int32)) ((p6 &&& (2147483647 : Int32)) % (5 : Int32))) (own_max ((p5 &&& (2147483647 : Int32)) % (5 : Int32)) ((p6 &&& (2147483647 : Int32)) % (5 : Int32))) (2 : Int32) (FP.l2d p1.toInt64) (FP.l2d p2.toInt64) (FP.l2d p3.toInt64) (FP.l2d p4.toInt64))), .second, .unset, .unset] [(.ref b8)]))
  refine Goes.pre (fun t kt => XS.iconst X60.here hx rfl (hb hby at_155) kt) ?_
  show Goes p e below s _ _ _ (T60.setTop (mkF m 156 #[.val (.int p1), .val (.int p2), .val (.int p3), .val (.int p4), .val (.int p5), .val (.int p6), .val (.ref b1), .val (.int ((p5 &&& (2147483647 : Int32)) % (5 : Int32))), .val (.int ((p6 &&& (2147483647 : Int32)) % (5 : Int32))), .val (.int (own_min ((p5 &&& (2147483647 : Int32)) % (5 : Int32)) ((p6 &&& (2147483647 : Int32)) % (5 : Int32)))), .val (.int (own_max ((p5 &&& (2147483647 : Int32)) % (5 : Int32)) ((p6 &&& (2147483647 : Int32)) % (5 : Int32)))), .val (.ref b8), .val (.double (own_e (own_min ((p5 &&& (2147483647 : Int32)) % (5 : Int32)) ((p6 &&& (2147483647 : Int32)) % (5 : Int32))) (own_max ((p5 &&& (2147483647 : Int32)) % (5 : Int32)) ((p6 &&& (2147483647 : Int32)) % (5 : Int32))) (0 : Int32) (FP.l2d p1.toInt64) (FP.l2d p2.toInt64) (FP.l2d p3.toInt64) (FP.l2d p4.toInt64))), .second, .val (.double (own_e (own_min ((p5 &&& (2147483647 : Int32)) % (5 : Int32)) ((p6 &&& (2147483647 : Int32)) % (5 : Int32))) (own_max ((p5 &&& (2147483647 : Int32)) % (5 : Int32)) ((p6 &&& (2147483647 : Int32)) % (5 : Int32))) (1 : Int32) (FP.l2d p1.toInt64) (FP.l2d p2.toInt64) (FP.l2d p3.toInt64) (FP.l2d p4.toInt64))), .second, .val (.double (own_e (own_min ((p5 &&& (2147483647 : Int32)) % (5 : Int32)) ((p6 &&& (2147483647 : Int32)) % (5 : Int32))) (own_max ((p5 &&& (2147483647 : Int32)) % (5 : Int32)) ((p6 &&& (2147483647 : Int32)) % (5 : Int32))) (2 : Int32) (FP.l2d p1.toInt64) (FP.l2d p2.toInt64) (FP.l2d p3.toInt64) (FP.l2d p4.toInt64))), .second, .unset, .unset] [(.int (3 : Int32)), (.ref b8)]))
  have fc62 : Fld Z h55 b8 "com/example/quantail/quantail/NumberArray" "items" "[D" (.ref it_9) := (fc53.keep Kq55 nin0)
  have fc63 : Arv Z h55 it_9 kd_9 .double (4 : Int32) [(.double (own_e (own_min ((p5 &&& (2147483647 : Int32)) % (5 : Int32)) ((p6 &&& (2147483647 : Int32)) % (5 : Int32))) (own_max ((p5 &&& (2147483647 : Int32)) % (5 : Int32)) ((p6 &&& (2147483647 : Int32)) % (5 : Int32))) (0 : Int32) (FP.l2d p1.toInt64) (FP.l2d p2.toInt64) (FP.l2d p3.toInt64) (FP.l2d p4.toInt64))), (.double (own_e (own_min ((p5 &&& (2147483647 : Int32)) % (5 : Int32)) ((p6 &&& (2147483647 : Int32)) % (5 : Int32))) (own_max ((p5 &&& (2147483647 : Int32)) % (5 : Int32)) ((p6 &&& (2147483647 : Int32)) % (5 : Int32))) (1 : Int32) (FP.l2d p1.toInt64) (FP.l2d p2.toInt64) (FP.l2d p3.toInt64) (FP.l2d p4.toInt64))), (.double (own_e (own_min ((p5 &&& (2147483647 : Int32)) % (5 : Int32)) ((p6 &&& (2147483647 : Int32)) % (5 : Int32))) (own_max ((p5 &&& (2147483647 : Int32)) % (5 : Int32)) ((p6 &&& (2147483647 : Int32)) % (5 : Int32))) (2 : Int32) (FP.l2d p1.toInt64) (FP.l2d p2.toInt64) (FP.l2d p3.toInt64) (FP.l2d p4.toInt64))), (.double (own_e (own_min ((p5 &&& (2147483647 : Int32)) % (5 : Int32)) ((p6 &&& (2147483647 : Int32)) % (5 : Int32))) (own_max ((p5 &&& (2147483647 : Int32)) % (5 : Int32)) ((p6 &&& (2147483647 : Int32)) % (5 : Int32))) (3 : Int32) (FP.l2d p1.toInt64) (FP.l2d p2.toInt64) (FP.l2d p3.toInt64) (FP.l2d p4.toInt64)))] (.double (0 : UInt64)) := (fc54.keep Kq55 nin0)
  have fc66 : Exa Z h55 b8 "com/example/quantail/quantail/NumberArray" := (fc57.keep Kq55)
  obtain ⟨cq65, kq65, qa65, qb65, qc65⟩ := isOf hZ eq60 fc66
  obtain ⟨_, _, ⟨T64, L64, k64, n64⟩, -, X64, ⟨Lc64, hQ64, l64, y64, z64⟩, st64⟩ := X60.virtualBack hx (y := (⟨"com/example/quantail/quantail/NumberArray", "get", "(I)Ljava/lang/Double;"⟩ : MethodName)) (z := (⟨"com/example/quantail/quantail/NumberArray", "get", "(I)Ljava/lang/Double;"⟩ : MethodName)) hown (mvT hZ (hw _ (List.mem_of_getElem? (i := 35) rfl))) (mvT hZ (hw _ (List.mem_of_getElem? (i := 36) rfl))) (notFace_of_selects (args := #[]) (mvT hZ (hw _ (List.mem_of_getElem? (i := 38) rfl)))) (mvT hZ (hw _ (List.mem_of_getElem? (i := 38) rfl))) (mvT hZ (hw _ (List.mem_of_getElem? (i := 37) rfl))) (by decide) (backOf (W := 0) (rm8_3 l Z a0 hw [] b8 it_9 kd_9 (own_e (own_min ((p5 &&& (2147483647 : Int32)) % (5 : Int32)) ((p6 &&& (2147483647 : Int32)) % (5 : Int32))) (own_max ((p5 &&& (2147483647 : Int32)) % (5 : Int32)) ((p6 &&& (2147483647 : Int32)) % (5 : Int32))) (0 : Int32) (FP.l2d p1.toInt64) (FP.l2d p2.toInt64) (FP.l2d p3.toInt64) (FP.l2d p4.toInt64)) (own_e (own_min ((p5 &&& (2147483647 : Int32)) % (5 : Int32)) ((p6 &&& (2147483647 : Int32)) % (5 : Int32))) (own_max ((p5 &&& (2147483647 : Int32)) % (5 : Int32)) ((p6 &&& (2147483647 : Int32)) % (5 : Int32))) (1 : Int32) (FP.l2d p1.toInt64) (FP.l2d p2.toInt64) (FP.l2d p3.toInt64) (FP.l2d p4.toInt64)) (own_e (own_min ((p5 &&& (2147483647 : Int32)) % (5 : Int32)) ((p6 &&& (2147483647 : Int32)) % (5 : Int32))) (own_max ((p5 &&& (2147483647 : Int32)) % (5 : Int32)) ((p6 &&& (2147483647 : Int32)) % (5 : Int32))) (2 : Int32) (FP.l2d p1.toInt64) (FP.l2d p2.toInt64) (FP.l2d p3.toInt64) (FP.l2d p4.toInt64)) (own_e (own_min ((p5 &&& (2147483647 : Int32)) % (5 : Int32)) ((p6 &&& (2147483647 : Int32)) % (5 : Int32))) (own_max ((p5 &&& (2147483647 : Int32)) % (5 : Int32)) ((p6 &&& (2147483647 : Int32)) % (5 : Int32))) (3 : Int32) (FP.l2d p1.toInt64) (FP.l2d p2.toInt64) (FP.l2d p3.toInt64) (FP.l2d p4.toInt64)) h55 n0 Z55 fc62 fc63) hZ (hw _ (List.mem_of_getElem? (i := 39) rfl)) (hw _ (List.mem_of_getElem? (i := 11) rfl)) (by decide) (by decide)) qa65 qc65 (g := (mkF m 156 #[.val (.int p1), .val (.int p2), .val (.int p3), .val (.int p4), .val (.int p5), .val (.int p6), .val (.ref b1), .val (.int ((p5 &&& (2147483647 : Int32)) % (5 : Int32))), .val (.int ((p6 &&& (2147483647 : Int32)) % (5 : Int32))), .val (.int (own_min ((p5 &&& (2147483647 : Int32)) % (5 : Int32)) ((p6 &&& (2147483647 : Int32)) % (5 : Int32)))), .val (.int (own_max ((p5 &&& (2147483647 : Int32)) % (5 : Int32)) ((p6 &&& (2147483647 : Int32)) % (5 : Int32)))), .val (.ref b8), .val (.double (own_e (own_min ((p5 &&& (2147483647 : Int32)) % (5 : Int32)) ((p6 &&& (2147483647 : Int32)) % (5 : Int32))) (own_max ((p5 &&& (2147483647 : Int32)) % (5 : Int32)) ((p6 &&& (2147483647 : Int32)) % (5 : Int32))) (0 : Int32) (FP.l2d p1.toInt64) (FP.l2d p2.toInt64) (FP.l2d p3.toInt64) (FP.l2d p4.toInt64))), .second, .val (.double (own_e (own_min ((p5 &&& (2147483647 : Int32)) % (5 : Int32)) ((p6 &&& (2147483647 : Int32)) % (5 : Int32))) (own_max ((p5 &&& (2147483647 : Int32)) % (5 : Int32)) ((p6 &&& (2147483647 : Int32)) % (5 : Int32))) (1 : Int32) (FP.l2d p1.toInt64) (FP.l2d p2.toInt64) (FP.l2d p3.toInt64) (FP.l2d p4.toInt64))), .second, .val (.double (own_e (own_min ((p5 &&& (2147483647 : Int32)) % (5 : Int32)) ((p6 &&& (2147483647 : Int32)) % (5 : Int32))) (own_max ((p5 &&& (2147483647 : Int32)) % (5 : Int32)) ((p6 &&& (2147483647 : Int32)) % (5 : Int32))) (2 : Int32) (FP.l2d p1.toInt64) (FP.l2d p2.toInt64) (FP.l2d p3.toInt64) (FP.l2d p4.toInt64))), .second, .unset, .unset] [(.int (3 : Int32)), (.ref b8)])) rfl (by rw [hml]; rfl) (Steps.refl _) (argsL := [(.int (3 : Int32))]) (rest := []) (lenOf pd_12 rfl) rfl (by show 2 * 0 + _ ≤ _; exact Nat.le_of_eq rfl) (hb hby at_156) (fun _ _ => ⟨rfl, eq60, (by decide : 6 + 1 ≤ _), (by decide : 12 + 1 ≤ _)⟩)
  dsimp only [Pt.U, Pt.locs, Pt.cells, Pt.slots] at X64 l64 y64 z64 st64 hQ64
  rw [l64, y64, z64] at X64
  obtain ⟨r_64, rfl, Nq64, Kq64, pq64_0, pq64_1, pq64_2, pq64_3⟩ := hQ64
  refine Goes.run st64 ?_
  have N64 := Fr.app N60 Nq64
  obtain ⟨h64, e64⟩ : ∃ z, T64.heap = z := ⟨_, rfl⟩
  rw [e64] at Kq64 pq64_2 pq64_3
  have fc67 : Arv Z h55 b1 k1 .double (4 : Int32) [(.double (FP.l2d p1.toInt64)), (.double (FP.l2d p2.toInt64)), (.double (FP.l2d p3.toInt64)), (.double (FP.l2d p4.toInt64))] (.double (0 : UInt64)) := (fc58.keep Kq55 nin0)
  have ltb1_64_r_64 : b1 < r_64 := Nat.lt_of_lt_of_le fc67.lt pq64_0
  have ltb8_64_r_64 : b8 < r_64 := Nat.lt_of_lt_of_le fc66.lt pq64_0
  have ltit_9_64_r_64 : it_9 < r_64 := Nat.lt_of_lt_of_le fc63.lt pq64_0
  have fc68 : Exa Z h55 r_39 "java/lang/Double" := (fc59.keep Kq55)
  have ltr_39_64_r_64 : r_39 < r_64 := Nat.lt_of_lt_of_le fc68.lt pq64_0
  have fc69 : Exa Z h55 r_47 "java/lang/Double" := (pq47_2.keep Kq55)
  have ltr_47_64_r_64 : r_47 < r_64 := Nat.lt_of_lt_of_le fc69.lt pq64_0
  have ltr_55_64_r_64 : r_55 < r_64 := Nat.lt_of_lt_of_le pq55_2.lt pq64_0
  have Z64 : n0 ≤ h64.size := Nat.le_trans Z55 Kq64.1
  show Goes p e below s _ _ _ (T64.setTop (mkF m 159 #[.val (.int p1), .val (.int p2), .val (.int p3), .val (.int p4), .val (.int p5), .val (.int p6), .val (.ref b1), .val (.int ((p5 &&& (2147483647 : Int32)) % (5 : Int32))), .val (.int ((p6 &&& (2147483647 : Int32)) % (5 : Int32))), .val (.int (own_min ((p5 &&& (2147483647 : Int32)) % (5 : Int32)) ((p6 &&& (2147483647 : Int32)) % (5 : Int32)))), .val (.int (own_max ((p5 &&& (2147483647 : Int32)) % (5 : Int32)) ((p6 &&& (2147483647 : Int32)) % (5 : Int32)))), .val (.ref b8), .val (.double (own_e (own_min ((p5 &&& (2147483647 : Int32)) % (5 : Int32)) ((p6 &&& (2147483647 : Int32)) % (5 : Int32))) (own_max ((p5 &&& (2147483647 : Int32)) % (5 : Int32)) ((p6 &&& (2147483647 : Int32)) % (5 : Int32))) (0 : Int32) (FP.l2d p1.toInt64) (FP.l2d p2.toInt64) (FP.l2d p3.toInt64) (FP.l2d p4.toInt64))), .second, .val (.double (own_e (own_min ((p5 &&& (2147483647 : Int32)) % (5 : Int32)) ((p6 &&& (2147483647 : Int32)) % (5 : Int32))) (own_max ((p5 &&& (2147483647 : Int32)) % (5 : Int32)) ((p6 &&& (2147483647 : Int32)) % (5 : Int32))) (1 : Int32) (FP.l2d p1.toInt64) (FP.l2d p2.toInt64) (FP.l2d p3.toInt64) (FP.l2d p4.toInt64))), .second, .val (.double (own_e (own_min ((p5 &&& (2147483647 : Int32)) % (5 : Int32)) ((p6 &&& (2147483647 : Int32)) % (5 : Int32))) (own_max ((p5 &&& (2147483647 : Int32)) % (5 : Int32)) ((p6 &&& (2147483647 : Int32)) % (5 : Int32))) (2 : Int32) (FP.l2d p1.toInt64) (FP.l2d p2.toInt64) (FP.l2d p3.toInt64) (FP.l2d p4.toInt64))), .second, .unset, .unset] [(.ref r_64)]))
  obtain ⟨cq71, kq71, qa71, qb71, qc71⟩ := isOf hZ e64 pq64_2
  obtain ⟨_, _, ⟨T70, L70, k70, n70⟩, -, X70, ⟨Lc70, hQ70, l70, y70, z70⟩, st70⟩ := X64.virtualBack hx (y := (⟨"java/lang/Double", "doubleValue", "()D"⟩ : MethodName)) (z := (⟨"java/lang/Double", "doubleValue", "()D"⟩ : MethodName)) hown (mvT hZ (hw _ (List.mem_of_getElem? (i := 59) rfl))) (mvT hZ (hw _ (List.mem_of_getElem? (i := 60) rfl))) (notFace_of_selects (args := #[]) (mvT hZ (hw _ (List.mem_of_getElem? (i := 62) rfl)))) (mvT hZ (hw _ (List.mem_of_getElem? (i := 62) rfl))) (mvT hZ (hw _ (List.mem_of_getElem? (i := 61) rfl))) (by decide) (backOf (W := 0) (rm12 l Z a0 hw [] r_64 (own_e (own_min ((p5 &&& (2147483647 : Int32)) % (5 : Int32)) ((p6 &&& (2147483647 : Int32)) % (5 : Int32))) (own_max ((p5 &&& (2147483647 : Int32)) % (5 : Int32)) ((p6 &&& (2147483647 : Int32)) % (5 : Int32))) (3 : Int32) (FP.l2d p1.toInt64) (FP.l2d p2.toInt64) (FP.l2d p3.toInt64) (FP.l2d p4.toInt64)) h64 n0 Z64 pq64_3) hZ (hw _ (List.mem_of_getElem? (i := 63) rfl)) (hw _ (List.mem_of_getElem? (i := 42) rfl)) (by decide) (by decide)) qa71 qc71 (g := (mkF m 159 #[.val (.int p1), .val (.int p2), .val (.int p3), .val (.int p4), .val (.int p5), .val (.int p6), .val (.ref b1), .val (.int ((p5 &&& (2147483647 : Int32)) % (5 : Int32))), .val (.int ((p6 &&& (2147483647 : Int32)) % (5 : Int32))), .val (.int (own_min ((p5 &&& (2147483647 : Int32)) % (5 : Int32)) ((p6 &&& (2147483647 : Int32)) % (5 : Int32)))), .val (.int (own_max ((p5 &&& (2147483647 : Int32)) % (5 : Int32)) ((p6 &&& (2147483647 : Int32)) % (5 : Int32)))), .val (.ref b8), .val (.double (own_e (own_min ((p5 &&& (2147483647 : Int32)) % (5 : Int32)) ((p6 &&& (2147483647 : Int32)) % (5 : Int32))) (own_max ((p5 &&& (2147483647 : Int32)) % (5 : Int32)) ((p6 &&& (2147483647 : Int32)) % (5 : Int32))) (0 : Int32) (FP.l2d p1.toInt64) (FP.l2d p2.toInt64) (FP.l2d p3.toInt64) (FP.l2d p4.toInt64))), .second, .val (.double (own_e (own_min ((p5 &&& (2147483647 : Int32)) % (5 : Int32)) ((p6 &&& (2147483647 : Int32)) % (5 : Int32))) (own_max ((p5 &&& (2147483647 : Int32)) % (5 : Int32)) ((p6 &&& (2147483647 : Int32)) % (5 : Int32))) (1 : Int32) (FP.l2d p1.toInt64) (FP.l2d p2.toInt64) (FP.l2d p3.toInt64) (FP.l2d p4.toInt64))), .second, .val (.double (own_e (own_min ((p5 &&& (2147483647 : Int32)) % (5 : Int32)) ((p6 &&& (2147483647 : Int32)) % (5 : Int32))) (own_max ((p5 &&& (2147483647 : Int32)) % (5 : Int32)) ((p6 &&& (2147483647 : Int32)) % (5 : Int32))) (2 : Int32) (FP.l2d p1.toInt64) (FP.l2d p2.toInt64) (FP.l2d p3.toInt64) (FP.l2d p4.toInt64))), .second, .unset, .unset] [(.ref r_64)])) rfl (by rw [hml]; rfl) (Steps.refl _) (argsL := []) (rest := []) (lenOf pd_13 rfl) rfl (by show 2 * 0 + _ ≤ _; exact Nat.le_of_eq rfl) (hb hby at_159) (fun _ _ => ⟨rfl, e64, (by decide : 7 + 0 ≤ _), (by decide : 13 + 0 ≤ _)⟩)
  dsimp only [Pt.U, Pt.locs, Pt.cells, Pt.slots] at X70 l70 y70 z70 st70 hQ70
  rw [l70, y70, z70] at X70
  obtain ⟨rfl, Nq70, eq70⟩ := hQ70
  refine Goes.run st70 ?_
  have N70 := Fr.app N64 Nq70
  show Goes p e below s _ _ _ (T70.setTop (mkF m 162 #[.val (.int p1), .val (.int p2), .val (.int p3), .val (.int p4), .val (.int p5), .val (.int p6), .val (.ref b1), .val (.int ((p5 &&& (2147483647 : Int32)) % (5 : Int32))), .val (.int ((p6 &&& (2147483647 : Int32)) % (5 : Int32))), .val (.int (own_min ((p5 &&& (2147483647 : Int32)) % (5 : Int32)) ((p6 &&& (2147483647 : Int32)) % (5 : Int32)))), .val (.int (own_max ((p5 &&& (2147483647 : Int32)) % (5 : Int32)) ((p6 &&& (2147483647 : Int32)) % (5 : Int32)))), .val (.ref b8), .val (.double (own_e (own_min ((p5 &&& (2147483647 : Int32)) % (5 : Int32)) ((p6 &&& (2147483647 : Int32)) % (5 : Int32))) (own_max ((p5 &&& (2147483647 : Int32)) % (5 : Int32)) ((p6 &&& (2147483647 : Int32)) % (5 : Int32))) (0 : Int32) (FP.l2d p1.toInt64) (FP.l2d p2.toInt64) (FP.l2d p3.toInt64) (FP.l2d p4.toInt64))), .second, .val (.double (own_e (own_min ((p5 &&& (2147483647 : Int32)) % (5 : Int32)) ((p6 &&& (2147483647 : Int32)) % (5 : Int32))) (own_max ((p5 &&& (2147483647 : Int32)) % (5 : Int32)) ((p6 &&& (2147483647 : Int32)) % (5 : Int32))) (1 : Int32) (FP.l2d p1.toInt64) (FP.l2d p2.toInt64) (FP.l2d p3.toInt64) (FP.l2d p4.toInt64))), .second, .val (.double (own_e (own_min ((p5 &&& (2147483647 : Int32)) % (5 : Int32)) ((p6 &&& (2147483647 : Int32)) % (5 : Int32))) (own_max ((p5 &&& (2147483647 : Int32)) % (5 : Int32)) ((p6 &&& (2147483647 : Int32)) % (5 : Int32))) (2 : Int32) (FP.l2d p1.toInt64) (FP.l2d p2.toInt64) (FP.l2d p3.toInt64) (FP.l2d p4.toInt64))), .second, .unset, .unset] [(.double (own_e (own_min ((p5 &&& (2147483647 : Int32)) % (5 : Int32)) ((p6 &&& (2147483647 : Int32)) % (5 : Int32))) (own_max ((p5 &&& (2147483647 : Int32)) % (5 : Int32)) ((p6 &&& (2147483647 : Int32)) % (5 : Int32))) (3 : Int32) (FP.l2d p1.toInt64) (FP.l2d p2.toInt64) (FP.l2d p3.toInt64) (FP.l2d p4.toInt64)))]))
  refine Goes.pre (fun t kt => XS.dstore X70.here hx rfl (hb hby at_162) rfl (l' := #[.val (.int p1), .val (.int p2), .val (.int p3), .val (.int p4), .val (.int p5), .val (.int p6), .val (.ref b1), .val (.int ((p5 &&& (2147483647 : Int32)) % (5 : Int32))), .val (.int ((p6 &&& (2147483647 : Int32)) % (5 : Int32))), .val (.int (own_min ((p5 &&& (2147483647 : Int32)) % (5 : Int32)) ((p6 &&& (2147483647 : Int32)) % (5 : Int32)))), .val (.int (own_max ((p5 &&& (2147483647 : Int32)) % (5 : Int32)) ((p6 &&& (2147483647 : Int32)) % (5 : Int32)))), .val (.ref b8), .val (.double (own_e (own_min ((p5 &&& (2147483647 : Int32)) % (5 : Int32)) ((p6 &&& (2147483647 : Int32)) % (5 : Int32))) (own_max ((p5 &&& (2147483647 : Int32)) % (5 : Int32)) ((p6 &&& (2147483647 : Int32)) % (5 : Int32))) (0 : Int32) (FP.l2d p1.toInt64) (FP.l2d p2.toInt64) (FP.l2d p3.toInt64) (FP.l2d p4.toInt64))), .second, .val (.double (own_e (own_min ((p5 &&& (2147483647 : Int32)) % (5 : Int32)) ((p6 &&& (2147483647 : Int32)) % (5 : Int32))) (own_max ((p5 &&& (2147483647 : Int32)) % (5 : Int32)) ((p6 &&& (2147483647 : Int32)) % (5 : Int32))) (1 : Int32) (FP.l2d p1.toInt64) (FP.l2d p2.toInt64) (FP.l2d p3.toInt64) (FP.l2d p4.toInt64))), .second, .val (.double (own_e (own_min ((p5 &&& (2147483647 : Int32)) % (5 : Int32)) ((p6 &&& (2147483647 : Int32)) % (5 : Int32))) (own_max ((p5 &&& (2147483647 : Int32)) % (5 : Int32)) ((p6 &&& (2147483647 : Int32)) % (5 : Int32))) (2 : Int32) (FP.l2d p1.toInt64) (FP.l2d p2.toInt64) (FP.l2d p3.toInt64) (FP.l2d p4.toInt64))), .second, .val (.double (own_e (own_min ((p5 &&& (2147483647 : Int32)) % (5 : Int32)) ((p6 &&& (2147483647 : Int32)) % (5 : Int32))) (own_max ((p5 &&& (2147483647 : Int32)) % (5 : Int32)) ((p6 &&& (2147483647 : Int32)) % (5 : Int32))) (3 : Int32) (FP.l2d p1.toInt64) (FP.l2d p2.toInt64) (FP.l2d p3.toInt64) (FP.l2d p4.toInt64))), .second]) rfl kt) ?_
  show Goes p e below s _ _ _ (T70.setTop (mkF m 164 #[.val (.int p1), .val (.int p2), .val (.int p3), .val (.int p4), .val (.int p5), .val (.int p6), .val (.ref b1), .val (.int ((p5 &&& (2147483647 : Int32)) % (5 : Int32))), .val (.int ((p6 &&& (2147483647 : Int32)) % (5 : Int32))), .val (.int (own_min ((p5 &&& (2147483647 : Int32)) % (5 : Int32)) ((p6 &&& (2147483647 : Int32)) % (5 : Int32)))), .val (.int (own_max ((p5 &&& (2147483647 : Int32)) % (5 : Int32)) ((p6 &&& (2147483647 : Int32)) % (5 : Int32)))), .val (.ref b8), .val (.double (own_e (own_min ((p5 &&& (2147483647 : Int32)) % (5 : Int32)) ((p6 &&& (2147483647 : Int32)) % (5 : Int32))) (own_max ((p5 &&& (2147483647 : Int32)) % (5 : Int32)) ((p6 &&& (2147483647 : Int32)) % (5 : Int32))) (0 : Int32) (FP.l2d p1.toInt64) (FP.l2d p2.toInt64) (FP.l2d p3.toInt64) (FP.l2d p4.toInt64))), .second, .val (.double (own_e (own_min ((p5 &&& (2147483647 : Int32)) % (5 : Int32)) ((p6 &&& (2147483647 : Int32)) % (5 : Int32))) (own_max ((p5 &&& (2147483647 : Int32)) % (5 : Int32)) ((p6 &&& (2147483647 : Int32)) % (5 : Int32))) (1 : Int32) (FP.l2d p1.toInt64) (FP.l2d p2.toInt64) (FP.l2d p3.toInt64) (FP.l2d p4.toInt64))), .second, .val (.double (own_e (own_min ((p5 &&& (2147483647 : Int32)) % (5 : Int32)) ((p6 &&& (2147483647 : Int32)) % (5 : Int32))) (own_max ((p5 &&& (2147483647 : Int32)) % (5 : Int32)) ((p6 &&& (2147483647 : Int32)) % (5 : Int32))) (2 : Int32) (FP.l2d p1.toInt64) (FP.l2d p2.toInt64) (FP.l2d p3.toInt64) (FP.l2d p4.toInt64))), .second, .val (.double (own_e (own_min ((p5 &&& (2147483647 : Int32)) % (5 : Int32)) ((p6 &&& (2147483647 : Int32)) % (5 : Int32))) (own_max ((p5 &&& (2147483647 : Int32)) % (5 : Int32)) ((p6 &&& (2147483647 : Int32)) % (5 : Int32))) (3 : Int32) (FP.l2d p1.toInt64) (FP.l2d p2.toInt64) (FP.l2d p3.toInt64) (FP.l2d p4.toInt64))), .second] []))
  refine Goes.pre (fun t kt => XS.dload X70.here hx rfl (hb hby at_164) rfl kt) ?_
  show Goes p e below s _ _ _ (T70.setTop (mkF m 166 #[.val (.int p1), .val (.int p2), .val (.int p3), .val (.int p4), .val (.int p5), .val (.int p6), .val (.ref b1), .val (.int ((p5 &&& (2147483647 : Int32)) % (5 : Int32))), .val (.int ((p6 &&& (2147483647 : Int32)) % (5 : Int32))), .val (.int (own_min ((p5 &&& (2147483647 : Int32)) % (5 : Int32)) ((p6 &&& (2147483647 : Int32)) % (5 : Int32)))), .val (.int (own_max ((p5 &&& (2147483647 : Int32)) % (5 : Int32)) ((p6 &&& (2147483647 : Int32)) % (5 : Int32)))), .val (.ref b8), .val (.double (own_e (own_min ((p5 &&& (2147483647 : Int32)) % (5 : Int32)) ((p6 &&& (2147483647 : Int32)) % (5 : Int32))) (own_max ((p5 &&& (2147483647 : Int32)) % (5 : Int32)) ((p6 &&& (2147483647 : Int32)) % (5 : Int32))) (0 : Int32) (FP.l2d p1.toInt64) (FP.l2d p2.toInt64) (FP.l2d p3.toInt64) (FP.l2d p4.toInt64))), .second, .val (.double (own_e (own_min ((p5 &&& (2147483647 : Int32)) % (5 : Int32)) ((p6 &&& (2147483647 : Int32)) % (5 : Int32))) (own_max ((p5 &&& (2147483647 : Int32)) % (5 : Int32)) ((p6 &&& (2147483647 : Int32)) % (5 : Int32))) (1 : Int32) (FP.l2d p1.toInt64) (FP.l2d p2.toInt64) (FP.l2d p3.toInt64) (FP.l2d p4.toInt64))), .second, .val (.double (own_e (own_min ((p5 &&& (2147483647 : Int32)) % (5 : Int32)) ((p6 &&& (2147483647 : Int32)) % (5 : Int32))) (own_max ((p5 &&& (2147483647 : Int32)) % (5 : Int32)) ((p6 &&& (2147483647 : Int32)) % (5 : Int32))) (2 : Int32) (FP.l2d p1.toInt64) (FP.l2d p2.toInt64) (FP.l2d p3.toInt64) (FP.l2d p4.toInt64))), .second, .val (.double (own_e (own_min ((p5 &&& (2147483647 : Int32)) % (5 : Int32)) ((p6 &&& (2147483647 : Int32)) % (5 : Int32))) (own_max ((p5 &&& (2147483647 : Int32)) % (5 : Int32)) ((p6 &&& (2147483647 : Int32)) % (5 : Int32))) (3 : Int32) (FP.l2d p1.toInt64) (FP.l2d p2.toInt64) (FP.l2d p3.toInt64) (FP.l2d p4.toInt64))), .second] [(.double (own_e (own_min ((p5 &&& (2147483647 : Int32)) % (5 : Int32)) ((p6 &&& (2147483647 : Int32)) % (5 : Int32))) (own_max ((p5 &&& (2147483647 : Int32)) % (5 : Int32)) ((p6 &&& (2147483647 : Int32)) % (5 : Int32))) (0 : Int32) (FP.l2d p1.toInt64) (FP.l2d p2.toInt64) (FP.l2d p3.toInt64) (FP.l2d p4.toInt64)))]))
  refine Goes.pre (fun t kt => XS.aload X70.here hx rfl (hb hby at_166) rfl rfl kt) ?_
  show Goes p e below s _ _ _ (T70.setTop (mkF m 168 #[.val (.int p1), .val (.int p2), .val (.int p3), .val (.int p4), .val (.int p5), .val (.int p6), .val (.ref b1), .val (.int ((p5 &&& (2147483647 : Int32)) % (5 : Int32))), .val (.int ((p6 &&& (2147483647 : Int32)) % (5 : Int32))), .val (.int (own_min ((p5 &&& (2147483647 : Int32)) % (5 : Int32)) ((p6 &&& (2147483647 : Int32)) % (5 : Int32)))), .val (.int (own_max ((p5 &&& (2147483647 : Int32)) % (5 : Int32)) ((p6 &&& (2147483647 : Int32)) % (5 : Int32)))), .val (.ref b8), .val (.double (own_e (own_min ((p5 &&& (2147483647 : Int32)) % (5 : Int32)) ((p6 &&& (2147483647 : Int32)) % (5 : Int32))) (own_max ((p5 &&& (2147483647 : Int32)) % (5 : Int32)) ((p6 &&& (2147483647 : Int32)) % (5 : Int32))) (0 : Int32) (FP.l2d p1.toInt64) (FP.l2d p2.toInt64) (FP.l2d p3.toInt64) (FP.l2d p4.toInt64))), .second, .val (.double (own_e (own_min ((p5 &&& (2147483647 : Int32)) % (5 : Int32)) ((p6 &&& (2147483647 : Int32)) % (5 : Int32))) (own_max ((p5 &&& (2147483647 : Int32)) % (5 : Int32)) ((p6 &&& (2147483647 : Int32)) % (5 : Int32))) (1 : Int32) (FP.l2d p1.toInt64) (FP.l2d p2.toInt64) (FP.l2d p3.toInt64) (FP.l2d p4.toInt64))), .second, .val (.double (own_e (own_min ((p5 &&& (2147483647 : Int32)) % (5 : Int32)) ((p6 &&& (2147483647 : Int32)) % (5 : Int32))) (own_max ((p5 &&& (2147483647 : Int32)) % (5 : Int32)) ((p6 &&& (2147483647 : Int32)) % (5 : Int32))) (2 : Int32) (FP.l2d p1.toInt64) (FP.l2d p2.toInt64) (FP.l2d p3.toInt64) (FP.l2d p4.toInt64))), .second, .val (.double (own_e (own_min ((p5 &&& (2147483647 : Int32)) % (5 : Int32)) ((p6 &&& (2147483647 : Int32)) % (5 : Int32))) (own_max ((p5 &&& (2147483647 : Int32)) % (5 : Int32)) ((p6 &&& (2147483647 : Int32)) % (5 : Int32))) (3 : Int32) (FP.l2d p1.toInt64) (FP.l2d p2.toInt64) (FP.l2d p3.toInt64) (FP.l2d p4.toInt64))), .second] [(.ref b1), (.double (own_e (own_min ((p5 &&& (2147483647 : Int32)) % (5 : Int32)) ((p6 &&& (2147483647 : Int32)) % (5 : Int32))) (own_max ((p5 &&& (2147483647 : Int32)) % (5 : Int32)) ((p6 &&& (2147483647 : Int32)) % (5 : Int32))) (0 : Int32) (FP.l2d p1.toInt64) (FP.l2d p2.toInt64) (FP.l2d p3.toInt64) (FP.l2d p4.toInt64)))]))
  refine Goes.pre (fun t kt => XS.iload X70.here hx rfl (hb hby at_168) rfl kt) ?_
  show Goes p e below s _ _ _ (T70.setTop (mkF m 170 #[.val (.int p1), .val (.int p2), .val (.int p3), .val (.int p4), .val (.int p5), .val (.int p6), .val (.ref b1), .val (.int ((p5 &&& (2147483647 : Int32)) % (5 : Int32))), .val (.int ((p6 &&& (2147483647 : Int32)) % (5 : Int32))), .val (.int (own_min ((p5 &&& (2147483647 : Int32)) % (5 : Int32)) ((p6 &&& (2147483647 : Int32)) % (5 : Int32)))), .val (.int (own_max ((p5 &&& (2147483647 : Int32)) % (5 : Int32)) ((p6 &&& (2147483647 : Int32)) % (5 : Int32)))), .val (.ref b8), .val (.double (own_e (own_min ((p5 &&& (2147483647 : Int32)) % (5 : Int32)) ((p6 &&& (2147483647 : Int32)) % (5 : Int32))) (own_max ((p5 &&& (2147483647 : Int32)) % (5 : Int32)) ((p6 &&& (2147483647 : Int32)) % (5 : Int32))) (0 : Int32) (FP.l2d p1.toInt64) (FP.l2d p2.toInt64) (FP.l2d p3.toInt64) (FP.l2d p4.toInt64))), .second, .val (.double (own_e (own_min ((p5 &&& (2147483647 : Int32)) % (5 : Int32)) ((p6 &&& (2147483647 : Int32)) % (5 : Int32))) (own_max ((p5 &&& (2147483647 : Int32)) % (5 : Int32)) ((p6 &&& (2147483647 : Int32)) % (5 : Int32))) (1 : Int32) (FP.l2d p1.toInt64) (FP.l2d p2.toInt64) (FP.l2d p3.toInt64) (FP.l2d p4.toInt64))), .second, .val (.double (own_e (own_min ((p5 &&& (2147483647 : Int32)) % (5 : Int32)) ((p6 &&& (2147483647 : Int32)) % (5 : Int32))) (own_max ((p5 &&& (2147483647 : Int32)) % (5 : Int32)) ((p6 &&& (2147483647 : Int32)) % (5 : Int32))) (2 : Int32) (FP.l2d p1.toInt64) (FP.l2d p2.toInt64) (FP.l2d p3.toInt64) (FP.l2d p4.toInt64))), .second, .val (.double (own_e (own_min ((p5 &&& (2147483647 : Int32)) % (5 : Int32)) ((p6 &&& (2147483647 : Int32)) % (5 : Int32))) (own_max ((p5 &&& (2147483647 : Int32)) % (5 : Int32)) ((p6 &&& (2147483647 : Int32)) % (5 : Int32))) (3 : Int32) (FP.l2d p1.toInt64) (FP.l2d p2.toInt64) (FP.l2d p3.toInt64) (FP.l2d p4.toInt64))), .second] [(.int (own_min ((p5 &&& (2147483647 : Int32)) % (5 : Int32)) ((p6 &&& (2147483647 : Int32)) % (5 : Int32)))), (.ref b1), (.double (own_e (own_min ((p5 &&& (2147483647 : Int32)) % (5 : Int32)) ((p6 &&& (2147483647 : Int32)) % (5 : Int32))) (own_max ((p5 &&& (2147483647 : Int32)) % (5 : Int32)) ((p6 &&& (2147483647 : Int32)) % (5 : Int32))) (0 : Int32) (FP.l2d p1.toInt64) (FP.l2d p2.toInt64) (FP.l2d p3.toInt64) (FP.l2d p4.toInt64)))]))
  refine Goes.pre (fun t kt => XS.iload X70.here hx rfl (hb hby at_170) rfl kt) ?_
  show Goes p e below s _ _ _ (T70.setTop (mkF m 172 #[.val (.int p1), .val (.int p2), .val (.int p3), .val (.int p4), .val (.int p5), .val (.int p6), .val (.ref b1), .val (.int ((p5 &&& (2147483647 : Int32)) % (5 : Int32))), .val (.int ((p6 &&& (2147483647 : Int32)) % (5 : Int32))), .val (.int (own_min ((p5 &&& (2147483647 : Int32)) % (5 : Int32)) ((p6 &&& (2147483647 : Int32)) % (5 : Int32)))), .val (.int (own_max ((p5 &&& (2147483647 : Int32)) % (5 : Int32)) ((p6 &&& (2147483647 : Int32)) % (5 : Int32)))), .val (.ref b8), .val (.double (own_e (own_min ((p5 &&& (2147483647 : Int32)) % (5 : Int32)) ((p6 &&& (2147483647 : Int32)) % (5 : Int32))) (own_max ((p5 &&& (2147483647 : Int32)) % (5 : Int32)) ((p6 &&& (2147483647 : Int32)) % (5 : Int32))) (0 : Int32) (FP.l2d p1.toInt64) (FP.l2d p2.toInt64) (FP.l2d p3.toInt64) (FP.l2d p4.toInt64))), .second, .val (.double (own_e (own_min ((p5 &&& (2147483647 : Int32)) % (5 : Int32)) ((p6 &&& (2147483647 : Int32)) % (5 : Int32))) (own_max ((p5 &&& (2147483647 : Int32)) % (5 : Int32)) ((p6 &&& (2147483647 : Int32)) % (5 : Int32))) (1 : Int32) (FP.l2d p1.toInt64) (FP.l2d p2.toInt64) (FP.l2d p3.toInt64) (FP.l2d p4.toInt64))), .second, .val (.double (own_e (own_min ((p5 &&& (2147483647 : Int32)) % (5 : Int32)) ((p6 &&& (2147483647 : Int32)) % (5 : Int32))) (own_max ((p5 &&& (2147483647 : Int32)) % (5 : Int32)) ((p6 &&& (2147483647 : Int32)) % (5 : Int32))) (2 : Int32) (FP.l2d p1.toInt64) (FP.l2d p2.toInt64) (FP.l2d p3.toInt64) (FP.l2d p4.toInt64))), .second, .val (.double (own_e (own_min ((p5 &&& (2147483647 : Int32)) % (5 : Int32)) ((p6 &&& (2147483647 : Int32)) % (5 : Int32))) (own_max ((p5 &&& (2147483647 : Int32)) % (5 : Int32)) ((p6 &&& (2147483647 : Int32)) % (5 : Int32))) (3 : Int32) (FP.l2d p1.toInt64) (FP.l2d p2.toInt64) (FP.l2d p3.toInt64) (FP.l2d p4.toInt64))), .second] [(.int (own_max ((p5 &&& (2147483647 : Int32)) % (5 : Int32)) ((p6 &&& (2147483647 : Int32)) % (5 : Int32)))), (.int (own_min ((p5 &&& (2147483647 : Int32)) % (5 : Int32)) ((p6 &&& (2147483647 : Int32)) % (5 : Int32)))), (.ref b1), (.double (own_e (own_min ((p5 &&& (2147483647 : Int32)) % (5 : Int32)) ((p6 &&& (2147483647 : Int32)) % (5 : Int32))) (own_max ((p5 &&& (2147483647 : Int32)) % (5 : Int32)) ((p6 &&& (2147483647 : Int32)) % (5 : Int32))) (0 : Int32) (FP.l2d p1.toInt64) (FP.l2d p2.toInt64) (FP.l2d p3.toInt64) (FP.l2d p4.toInt64)))]))
  refine Goes.pre (fun t kt => XS.iconst X70.here hx rfl (hb hby at_172) kt) ?_
  show Goes p e below s _ _ _ (T70.setTop (mkF m 173 #[.val (.int p1), .val (.int p2), .val (.int p3), .val (.int p4), .val (.int p5), .val (.int p6), .val (.ref b1), .val (.int ((p5 &&& (2147483647 : Int32)) % (5 : Int32))), .val (.int ((p6 &&& (2147483647 : Int32)) % (5 : Int32))), .val (.int (own_min ((p5 &&& (2147483647 : Int32)) % (5 : Int32)) ((p6 &&& (2147483647 : Int32)) % (5 : Int32)))), .val (.int (own_max ((p5 &&& (2147483647 : Int32)) % (5 : Int32)) ((p6 &&& (2147483647 : Int32)) % (5 : Int32)))), .val (.ref b8), .val (.double (own_e (own_min ((p5 &&& (2147483647 : Int32)) % (5 : Int32)) ((p6 &&& (2147483647 : Int32)) % (5 : Int32))) (own_max ((p5 &&& (2147483647 : Int32)) % (5 : Int32)) ((p6 &&& (2147483647 : Int32)) % (5 : Int32))) (0 : Int32) (FP.l2d p1.toInt64) (FP.l2d p2.toInt64) (FP.l2d p3.toInt64) (FP.l2d p4.toInt64))), .second, .val (.double (own_e (own_min ((p5 &&& (2147483647 : Int32)) % (5 : Int32)) ((p6 &&& (2147483647 : Int32)) % (5 : Int32))) (own_max ((p5 &&& (2147483647 : Int32)) % (5 : Int32)) ((p6 &&& (2147483647 : Int32)) % (5 : Int32))) (1 : Int32) (FP.l2d p1.toInt64) (FP.l2d p2.toInt64) (FP.l2d p3.toInt64) (FP.l2d p4.toInt64))), .second, .val (.double (own_e (own_min ((p5 &&& (2147483647 : Int32)) % (5 : Int32)) ((p6 &&& (2147483647 : Int32)) % (5 : Int32))) (own_max ((p5 &&& (2147483647 : Int32)) % (5 : Int32)) ((p6 &&& (2147483647 : Int32)) % (5 : Int32))) (2 : Int32) (FP.l2d p1.toInt64) (FP.l2d p2.toInt64) (FP.l2d p3.toInt64) (FP.l2d p4.toInt64))), .second, .val (.double (own_e (own_min ((p5 &&& (2147483647 : Int32)) % (5 : Int32)) ((p6 &&& (2147483647 : Int32)) % (5 : Int32))) (own_max ((p5 &&& (2147483647 : Int32)) % (5 : Int32)) ((p6 &&& (2147483647 : Int32)) % (5 : Int32))) (3 : Int32) (FP.l2d p1.toInt64) (FP.l2d p2.toInt64) (FP.l2d p3.toInt64) (FP.l2d p4.toInt64))), .second] [(.int (0 : Int32)), (.int (own_max ((p5 &&& (2147483647 : Int32)) % (5 : Int32)) ((p6 &&& (2147483647 : Int32)) % (5 : Int32)))), (.int (own_min ((p5 &&& (2147483647 : Int32)) % (5 : Int32)) ((p6 &&& (2147483647 : Int32)) % (5 : Int32)))), (.ref b1), (.double (own_e (own_min ((p5 &&& (2147483647 : Int32)) % (5 : Int32)) ((p6 &&& (2147483647 : Int32)) % (5 : Int32))) (own_max ((p5 &&& (2147483647 : Int32)) % (5 : Int32)) ((p6 &&& (2147483647 : Int32)) % (5 : Int32))) (0 : Int32) (FP.l2d p1.toInt64) (FP.l2d p2.toInt64) (FP.l2d p3.toInt64) (FP.l2d p4.toInt64)))]))
  have fc72 : Arv Z h64 b1 k1 .double (4 : Int32) [(.double (FP.l2d p1.toInt64)), (.double (FP.l2d p2.toInt64)), (.double (FP.l2d p3.toInt64)), (.double (FP.l2d p4.toInt64))] (.double (0 : UInt64)) := (fc67.keep Kq64 nin0)
  obtain ⟨_, _, ⟨T73, L73, k73, n73⟩, -, X73, ⟨Lc73, hQ73, l73, y73, z73⟩, st73⟩ := Jvm.LawKit.callS X70 hx (y := (⟨"com/example/quantail/quantail/NumberArrayReversePinLaw", "expected", "([DIII)D"⟩ : MethodName)) hown (mvT hZ (hw _ (List.mem_of_getElem? (i := 64) rfl))) (mvT hZ (hw _ (List.mem_of_getElem? (i := 65) rfl))) (mvT hZ (hw _ (List.mem_of_getElem? (i := 66) rfl))) (mvT hZ (hw _ (List.mem_of_getElem? (i := 67) rfl))) (by decide) (backOf (W := 2) (rm13_0 l Z a0 hw [] b1 (own_min ((p5 &&& (2147483647 : Int32)) % (5 : Int32)) ((p6 &&& (2147483647 : Int32)) % (5 : Int32))) (own_max ((p5 &&& (2147483647 : Int32)) % (5 : Int32)) ((p6 &&& (2147483647 : Int32)) % (5 : Int32))) k1 (FP.l2d p1.toInt64) (FP.l2d p2.toInt64) (FP.l2d p3.toInt64) (FP.l2d p4.toInt64) h64 n0 Z64 fc72 (own_okLaw p5 p6)) hZ (hw _ (List.mem_of_getElem? (i := 67) rfl)) (hw _ (List.mem_of_getElem? (i := 66) rfl)) (by decide) (by decide)) (g := (mkF m 173 #[.val (.int p1), .val (.int p2), .val (.int p3), .val (.int p4), .val (.int p5), .val (.int p6), .val (.ref b1), .val (.int ((p5 &&& (2147483647 : Int32)) % (5 : Int32))), .val (.int ((p6 &&& (2147483647 : Int32)) % (5 : Int32))), .val (.int (own_min ((p5 &&& (2147483647 : Int32)) % (5 : Int32)) ((p6 &&& (2147483647 : Int32)) % (5 : Int32)))), .val (.int (own_max ((p5 &&& (2147483647 : Int32)) % (5 : Int32)) ((p6 &&& (2147483647 : Int32)) % (5 : Int32)))), .val (.ref b8), .val (.double (own_e (own_min ((p5 &&& (2147483647 : Int32)) % (5 : Int32)) ((p6 &&& (2147483647 : Int32)) % (5 : Int32))) (own_max ((p5 &&& (2147483647 : Int32)) % (5 : Int32)) ((p6 &&& (2147483647 : Int32)) % (5 : Int32))) (0 : Int32) (FP.l2d p1.toInt64) (FP.l2d p2.toInt64) (FP.l2d p3.toInt64) (FP.l2d p4.toInt64))), .second, .val (.double (own_e (own_min ((p5 &&& (2147483647 : Int32)) % (5 : Int32)) ((p6 &&& (2147483647 : Int32)) % (5 : Int32))) (own_max ((p5 &&& (2147483647 : Int32)) % (5 : Int32)) ((p6 &&& (2147483647 : Int32)) % (5 : Int32))) (1 : Int32) (FP.l2d p1.toInt64) (FP.l2d p2.toInt64) (FP.l2d p3.toInt64) (FP.l2d p4.toInt64))), .second, .val (.double (own_e (own_min ((p5 &&& (2147483647 : Int32)) % (5 : Int32)) ((p6 &&& (2147483647 : Int32)) % (5 : Int32))) (own_max ((p5 &&& (2147483647 : Int32)) % (5 : Int32)) ((p6 &&& (2147483647 : Int32)) % (5 : Int32))) (2 : Int32) (FP.l2d p1.toInt64) (FP.l2d p2.toInt64) (FP.l2d p3.toInt64) (FP.l2d p4.toInt64))), .second, .val (.double (own_e (own_min ((p5 &&& (2147483647 : Int32)) % (5 : Int32)) ((p6 &&& (2147483647 : Int32)) % (5 : Int32))) (own_max ((p5 &&& (2147483647 : Int32)) % (5 : Int32)) ((p6 &&& (2147483647 : Int32)) % (5 : Int32))) (3 : Int32) (FP.l2d p1.toInt64) (FP.l2d p2.toInt64) (FP.l2d p3.toInt64) (FP.l2d p4.toInt64))), .second] [(.int (0 : Int32)), (.int (own_max ((p5 &&& (2147483647 : Int32)) % (5 : Int32)) ((p6 &&& (2147483647 : Int32)) % (5 : Int32)))), (.int (own_min ((p5 &&& (2147483647 : Int32)) % (5 : Int32)) ((p6 &&& (2147483647 : Int32)) % (5 : Int32)))), (.ref b1), (.double (own_e (own_min ((p5 &&& (2147483647 : Int32)) % (5 : Int32)) ((p6 &&& (2147483647 : Int32)) % (5 : Int32))) (own_max ((p5 &&& (2147483647 : Int32)) % (5 : Int32)) ((p6 &&& (2147483647 : Int32)) % (5 : Int32))) (0 : Int32) (FP.l2d p1.toInt64) (FP.l2d p2.toInt64) (FP.l2d p3.toInt64) (FP.l2d p4.toInt64)))])) rfl (by rw [hml]; rfl) (argsL := [(.ref b1), (.int (own_min ((p5 &&& (2147483647 : Int32)) % (5 : Int32)) ((p6 &&& (2147483647 : Int32)) % (5 : Int32)))), (.int (own_max ((p5 &&& (2147483647 : Int32)) % (5 : Int32)) ((p6 &&& (2147483647 : Int32)) % (5 : Int32)))), (.int (0 : Int32))]) (rest := [(.double (own_e (own_min ((p5 &&& (2147483647 : Int32)) % (5 : Int32)) ((p6 &&& (2147483647 : Int32)) % (5 : Int32))) (own_max ((p5 &&& (2147483647 : Int32)) % (5 : Int32)) ((p6 &&& (2147483647 : Int32)) % (5 : Int32))) (0 : Int32) (FP.l2d p1.toInt64) (FP.l2d p2.toInt64) (FP.l2d p3.toInt64) (FP.l2d p4.toInt64)))]) (lenOf pd_14 rfl) rfl (by show 2 * 0 + _ ≤ _; exact Nat.le_of_eq rfl) (hb hby at_173) (fun _ _ => ⟨rfl, eq70, (by decide : 7 + 0 ≤ _), (by decide : 13 + 0 ≤ _)⟩)
  dsimp only [Pt.U, Pt.locs, Pt.cells, Pt.slots] at X73 l73 y73 z73 st73 hQ73
  rw [l73, y73, z73] at X73
  obtain ⟨rfl, Nq73, eq73⟩ := hQ73
  refine Goes.pre st73 ?_
  have N73 := Fr.app N70 Nq73
  show Goes p e below s _ _ _ (T73.setTop (mkF m 176 #[.val (.int p1), .val (.int p2), .val (.int p3), .val (.int p4), .val (.int p5), .val (.int p6), .val (.ref b1), .val (.int ((p5 &&& (2147483647 : Int32)) % (5 : Int32))), .val (.int ((p6 &&& (2147483647 : Int32)) % (5 : Int32))), .val (.int (own_min ((p5 &&& (2147483647 : Int32)) % (5 : Int32)) ((p6 &&& (2147483647 : Int32)) % (5 : Int32)))), .val (.int (own_max ((p5 &&& (2147483647 : Int32)) % (5 : Int32)) ((p6 &&& (2147483647 : Int32)) % (5 : Int32)))), .val (.ref b8), .val (.double (own_e (own_min ((p5 &&& (2147483647 : Int32)) % (5 : Int32)) ((p6 &&& (2147483647 : Int32)) % (5 : Int32))) (own_max ((p5 &&& (2147483647 : Int32)) % (5 : Int32)) ((p6 &&& (2147483647 : Int32)) % (5 : Int32))) (0 : Int32) (FP.l2d p1.toInt64) (FP.l2d p2.toInt64) (FP.l2d p3.toInt64) (FP.l2d p4.toInt64))), .second, .val (.double (own_e (own_min ((p5 &&& (2147483647 : Int32)) % (5 : Int32)) ((p6 &&& (2147483647 : Int32)) % (5 : Int32))) (own_max ((p5 &&& (2147483647 : Int32)) % (5 : Int32)) ((p6 &&& (2147483647 : Int32)) % (5 : Int32))) (1 : Int32) (FP.l2d p1.toInt64) (FP.l2d p2.toInt64) (FP.l2d p3.toInt64) (FP.l2d p4.toInt64))), .second, .val (.double (own_e (own_min ((p5 &&& (2147483647 : Int32)) % (5 : Int32)) ((p6 &&& (2147483647 : Int32)) % (5 : Int32))) (own_max ((p5 &&& (2147483647 : Int32)) % (5 : Int32)) ((p6 &&& (2147483647 : Int32)) % (5 : Int32))) (2 : Int32) (FP.l2d p1.toInt64) (FP.l2d p2.toInt64) (FP.l2d p3.toInt64) (FP.l2d p4.toInt64))), .second, .val (.double (own_e (own_min ((p5 &&& (2147483647 : Int32)) % (5 : Int32)) ((p6 &&& (2147483647 : Int32)) % (5 : Int32))) (own_max ((p5 &&& (2147483647 : Int32)) % (5 : Int32)) ((p6 &&& (2147483647 : Int32)) % (5 : Int32))) (3 : Int32) (FP.l2d p1.toInt64) (FP.l2d p2.toInt64) (FP.l2d p3.toInt64) (FP.l2d p4.toInt64))), .second] [(.double (own_e (own_min ((p5 &&& (2147483647 : Int32)) % (5 : Int32)) ((p6 &&& (2147483647 : Int32)) % (5 : Int32))) (own_max ((p5 &&& (2147483647 : Int32)) % (5 : Int32)) ((p6 &&& (2147483647 : Int32)) % (5 : Int32))) (0 : Int32) (FP.l2d p1.toInt64) (FP.l2d p2.toInt64) (FP.l2d p3.toInt64) (FP.l2d p4.toInt64))), (.double (own_e (own_min ((p5 &&& (2147483647 : Int32)) % (5 : Int32)) ((p6 &&& (2147483647 : Int32)) % (5 : Int32))) (own_max ((p5 &&& (2147483647 : Int32)) % (5 : Int32)) ((p6 &&& (2147483647 : Int32)) % (5 : Int32))) (0 : Int32) (FP.l2d p1.toInt64) (FP.l2d p2.toInt64) (FP.l2d p3.toInt64) (FP.l2d p4.toInt64)))]))
  refine Goes.pre (fun t kt => XS.dcmpS X73.here hx rfl (hb hby at_176) rfl (v := (0 : Int32)) (dcmpV_self own_nn _) kt) ?_
  show Goes p e below s _ _ _ (T73.setTop (mkF m 177 #[.val (.int p1), .val (.int p2), .val (.int p3), .val (.int p4), .val (.int p5), .val (.int p6), .val (.ref b1), .val (.int ((p5 &&& (2147483647 : Int32)) % (5 : Int32))), .val (.int ((p6 &&& (2147483647 : Int32)) % (5 : Int32))), .val (.int (own_min ((p5 &&& (2147483647 : Int32)) % (5 : Int32)) ((p6 &&& (2147483647 : Int32)) % (5 : Int32)))), .val (.int (own_max ((p5 &&& (2147483647 : Int32)) % (5 : Int32)) ((p6 &&& (2147483647 : Int32)) % (5 : Int32)))), .val (.ref b8), .val (.double (own_e (own_min ((p5 &&& (2147483647 : Int32)) % (5 : Int32)) ((p6 &&& (2147483647 : Int32)) % (5 : Int32))) (own_max ((p5 &&& (2147483647 : Int32)) % (5 : Int32)) ((p6 &&& (2147483647 : Int32)) % (5 : Int32))) (0 : Int32) (FP.l2d p1.toInt64) (FP.l2d p2.toInt64) (FP.l2d p3.toInt64) (FP.l2d p4.toInt64))), .second, .val (.double (own_e (own_min ((p5 &&& (2147483647 : Int32)) % (5 : Int32)) ((p6 &&& (2147483647 : Int32)) % (5 : Int32))) (own_max ((p5 &&& (2147483647 : Int32)) % (5 : Int32)) ((p6 &&& (2147483647 : Int32)) % (5 : Int32))) (1 : Int32) (FP.l2d p1.toInt64) (FP.l2d p2.toInt64) (FP.l2d p3.toInt64) (FP.l2d p4.toInt64))), .second, .val (.double (own_e (own_min ((p5 &&& (2147483647 : Int32)) % (5 : Int32)) ((p6 &&& (2147483647 : Int32)) % (5 : Int32))) (own_max ((p5 &&& (2147483647 : Int32)) % (5 : Int32)) ((p6 &&& (2147483647 : Int32)) % (5 : Int32))) (2 : Int32) (FP.l2d p1.toInt64) (FP.l2d p2.toInt64) (FP.l2d p3.toInt64) (FP.l2d p4.toInt64))), .second, .val (.double (own_e (own_min ((p5 &&& (2147483647 : Int32)) % (5 : Int32)) ((p6 &&& (2147483647 : Int32)) % (5 : Int32))) (own_max ((p5 &&& (2147483647 : Int32)) % (5 : Int32)) ((p6 &&& (2147483647 : Int32)) % (5 : Int32))) (3 : Int32) (FP.l2d p1.toInt64) (FP.l2d p2.toInt64) (FP.l2d p3.toInt64) (FP.l2d p4.toInt64))), .second] [(.int (0 : Int32))]))
  refine Goes.pre (fun t kt => XS.ifNo X73.here hx rfl (hb hby at_177) rfl (Jvm.Free.XT.i0_ne_f ((by decide))) kt) ?_
  show Goes p e below s _ _ _ (T73.setTop (mkF m 180 #[.val (.int p1), .val (.int p2), .val (.int p3), .val (.int p4), .val (.int p5), .val (.int p6), .val (.ref b1), .val (.int ((p5 &&& (2147483647 : Int32)) % (5 : Int32))), .val (.int ((p6 &&& (2147483647 : Int32)) % (5 : Int32))), .val (.int (own_min ((p5 &&& (2147483647 : Int32)) % (5 : Int32)) ((p6 &&& (2147483647 : Int32)) % (5 : Int32)))), .val (.int (own_max ((p5 &&& (2147483647 : Int32)) % (5 : Int32)) ((p6 &&& (2147483647 : Int32)) % (5 : Int32)))), .val (.ref b8), .val (.double (own_e (own_min ((p5 &&& (2147483647 : Int32)) % (5 : Int32)) ((p6 &&& (2147483647 : Int32)) % (5 : Int32))) (own_max ((p5 &&& (2147483647 : Int32)) % (5 : Int32)) ((p6 &&& (2147483647 : Int32)) % (5 : Int32))) (0 : Int32) (FP.l2d p1.toInt64) (FP.l2d p2.toInt64) (FP.l2d p3.toInt64) (FP.l2d p4.toInt64))), .second, .val (.double (own_e (own_min ((p5 &&& (2147483647 : Int32)) % (5 : Int32)) ((p6 &&& (2147483647 : Int32)) % (5 : Int32))) (own_max ((p5 &&& (2147483647 : Int32)) % (5 : Int32)) ((p6 &&& (2147483647 : Int32)) % (5 : Int32))) (1 : Int32) (FP.l2d p1.toInt64) (FP.l2d p2.toInt64) (FP.l2d p3.toInt64) (FP.l2d p4.toInt64))), .second, .val (.double (own_e (own_min ((p5 &&& (2147483647 : Int32)) % (5 : Int32)) ((p6 &&& (2147483647 : Int32)) % (5 : Int32))) (own_max ((p5 &&& (2147483647 : Int32)) % (5 : Int32)) ((p6 &&& (2147483647 : Int32)) % (5 : Int32))) (2 : Int32) (FP.l2d p1.toInt64) (FP.l2d p2.toInt64) (FP.l2d p3.toInt64) (FP.l2d p4.toInt64))), .second, .val (.double (own_e (own_min ((p5 &&& (2147483647 : Int32)) % (5 : Int32)) ((p6 &&& (2147483647 : Int32)) % (5 : Int32))) (own_max ((p5 &&& (2147483647 : Int32)) % (5 : Int32)) ((p6 &&& (2147483647 : Int32)) % (5 : Int32))) (3 : Int32) (FP.l2d p1.toInt64) (FP.l2d p2.toInt64) (FP.l2d p3.toInt64) (FP.l2d p4.toInt64))), .second] []))
  refine Goes.pre (fun t kt => XS.dload X73.here hx rfl (hb hby at_180) rfl kt) ?_
  show Goes p e below s _ _ _ (T73.setTop (mkF m 182 #[.val (.int p1), .val (.int p2), .val (.int p3), .val (.int p4), .val (.int p5), .val (.int p6), .val (.ref b1), .val (.int ((p5 &&& (2147483647 : Int32)) % (5 : Int32))), .val (.int ((p6 &&& (2147483647 : Int32)) % (5 : Int32))), .val (.int (own_min ((p5 &&& (2147483647 : Int32)) % (5 : Int32)) ((p6 &&& (2147483647 : Int32)) % (5 : Int32)))), .val (.int (own_max ((p5 &&& (2147483647 : Int32)) % (5 : Int32)) ((p6 &&& (2147483647 : Int32)) % (5 : Int32)))), .val (.ref b8), .val (.double (own_e (own_min ((p5 &&& (2147483647 : Int32)) % (5 : Int32)) ((p6 &&& (2147483647 : Int32)) % (5 : Int32))) (own_max ((p5 &&& (2147483647 : Int32)) % (5 : Int32)) ((p6 &&& (2147483647 : Int32)) % (5 : Int32))) (0 : Int32) (FP.l2d p1.toInt64) (FP.l2d p2.toInt64) (FP.l2d p3.toInt64) (FP.l2d p4.toInt64))), .second, .val (.double (own_e (own_min ((p5 &&& (2147483647 : Int32)) % (5 : Int32)) ((p6 &&& (2147483647 : Int32)) % (5 : Int32))) (own_max ((p5 &&& (2147483647 : Int32)) % (5 : Int32)) ((p6 &&& (2147483647 : Int32)) % (5 : Int32))) (1 : Int32) (FP.l2d p1.toInt64) (FP.l2d p2.toInt64) (FP.l2d p3.toInt64) (FP.l2d p4.toInt64))), .second, .val (.double (own_e (own_min ((p5 &&& (2147483647 : Int32)) % (5 : Int32)) ((p6 &&& (2147483647 : Int32)) % (5 : Int32))) (own_max ((p5 &&& (2147483647 : Int32)) % (5 : Int32)) ((p6 &&& (2147483647 : Int32)) % (5 : Int32))) (2 : Int32) (FP.l2d p1.toInt64) (FP.l2d p2.toInt64) (FP.l2d p3.toInt64) (FP.l2d p4.toInt64))), .second, .val (.double (own_e (own_min ((p5 &&& (2147483647 : Int32)) % (5 : Int32)) ((p6 &&& (2147483647 : Int32)) % (5 : Int32))) (own_max ((p5 &&& (2147483647 : Int32)) % (5 : Int32)) ((p6 &&& (2147483647 : Int32)) % (5 : Int32))) (3 : Int32) (FP.l2d p1.toInt64) (FP.l2d p2.toInt64) (FP.l2d p3.toInt64) (FP.l2d p4.toInt64))), .second] [(.double (own_e (own_min ((p5 &&& (2147483647 : Int32)) % (5 : Int32)) ((p6 &&& (2147483647 : Int32)) % (5 : Int32))) (own_max ((p5 &&& (2147483647 : Int32)) % (5 : Int32)) ((p6 &&& (2147483647 : Int32)) % (5 : Int32))) (1 : Int32) (FP.l2d p1.toInt64) (FP.l2d p2.toInt64) (FP.l2d p3.toInt64) (FP.l2d p4.toInt64)))]))
  refine Goes.pre (fun t kt => XS.aload X73.here hx rfl (hb hby at_182) rfl rfl kt) ?_
  show Goes p e below s _ _ _ (T73.setTop (mkF m 184 #[.val (.int p1), .val (.int p2), .val (.int p3), .val (.int p4), .val (.int p5), .val (.int p6), .val (.ref b1), .val (.int ((p5 &&& (2147483647 : Int32)) % (5 : Int32))), .val (.int ((p6 &&& (2147483647 : Int32)) % (5 : Int32))), .val (.int (own_min ((p5 &&& (2147483647 : Int32)) % (5 : Int32)) ((p6 &&& (2147483647 : Int32)) % (5 : Int32)))), .val (.int (own_max ((p5 &&& (2147483647 : Int32)) % (5 : Int32)) ((p6 &&& (2147483647 : Int32)) % (5 : Int32)))), .val (.ref b8), .val (.double (own_e (own_min ((p5 &&& (2147483647 : Int32)) % (5 : Int32)) ((p6 &&& (2147483647 : Int32)) % (5 : Int32))) (own_max ((p5 &&& (2147483647 : Int32)) % (5 : Int32)) ((p6 &&& (2147483647 : Int32)) % (5 : Int32))) (0 : Int32) (FP.l2d p1.toInt64) (FP.l2d p2.toInt64) (FP.l2d p3.toInt64) (FP.l2d p4.toInt64))), .second, .val (.double (own_e (own_min ((p5 &&& (2147483647 : Int32)) % (5 : Int32)) ((p6 &&& (2147483647 : Int32)) % (5 : Int32))) (own_max ((p5 &&& (2147483647 : Int32)) % (5 : Int32)) ((p6 &&& (2147483647 : Int32)) % (5 : Int32))) (1 : Int32) (FP.l2d p1.toInt64) (FP.l2d p2.toInt64) (FP.l2d p3.toInt64) (FP.l2d p4.toInt64))), .second, .val (.double (own_e (own_min ((p5 &&& (2147483647 : Int32)) % (5 : Int32)) ((p6 &&& (2147483647 : Int32)) % (5 : Int32))) (own_max ((p5 &&& (2147483647 : Int32)) % (5 : Int32)) ((p6 &&& (2147483647 : Int32)) % (5 : Int32))) (2 : Int32) (FP.l2d p1.toInt64) (FP.l2d p2.toInt64) (FP.l2d p3.toInt64) (FP.l2d p4.toInt64))), .second, .val (.double (own_e (own_min ((p5 &&& (2147483647 : Int32)) % (5 : Int32)) ((p6 &&& (2147483647 : Int32)) % (5 : Int32))) (own_max ((p5 &&& (2147483647 : Int32)) % (5 : Int32)) ((p6 &&& (2147483647 : Int32)) % (5 : Int32))) (3 : Int32) (FP.l2d p1.toInt64) (FP.l2d p2.toInt64) (FP.l2d p3.toInt64) (FP.l2d p4.toInt64))), .second] [(.ref b1), (.double (own_e (own_min ((p5 &&& (2147483647 : Int32)) % (5 : Int32)) ((p6 &&& (2147483647 : Int32)) % (5 : Int32))) (own_max ((p5 &&& (2147483647 : Int32)) % (5 : Int32)) ((p6 &&& (2147483647 : Int32)) % (5 : Int32))) (1 : Int32) (FP.l2d p1.toInt64) (FP.l2d p2.toInt64) (FP.l2d p3.toInt64) (FP.l2d p4.toInt64)))]))
  refine Goes.pre (fun t kt => XS.iload X73.here hx rfl (hb hby at_184) rfl kt) ?_
  show Goes p e below s _ _ _ (T73.setTop (mkF m 186 #[.val (.int p1), .val (.int p2), .val (.int p3), .val (.int p4), .val (.int p5), .val (.int p6), .val (.ref b1), .val (.int ((p5 &&& (2147483647 : Int32)) % (5 : Int32))), .val (.int ((p6 &&& (2147483647 : Int32)) % (5 : Int32))), .val (.int (own_min ((p5 &&& (2147483647 : Int32)) % (5 : Int32)) ((p6 &&& (2147483647 : Int32)) % (5 : Int32)))), .val (.int (own_max ((p5 &&& (2147483647 : Int32)) % (5 : Int32)) ((p6 &&& (2147483647 : Int32)) % (5 : Int32)))), .val (.ref b8), .val (.double (own_e (own_min ((p5 &&& (2147483647 : Int32)) % (5 : Int32)) ((p6 &&& (2147483647 : Int32)) % (5 : Int32))) (own_max ((p5 &&& (2147483647 : Int32)) % (5 : Int32)) ((p6 &&& (2147483647 : Int32)) % (5 : Int32))) (0 : Int32) (FP.l2d p1.toInt64) (FP.l2d p2.toInt64) (FP.l2d p3.toInt64) (FP.l2d p4.toInt64))), .second, .val (.double (own_e (own_min ((p5 &&& (2147483647 : Int32)) % (5 : Int32)) ((p6 &&& (2147483647 : Int32)) % (5 : Int32))) (own_max ((p5 &&& (2147483647 : Int32)) % (5 : Int32)) ((p6 &&& (2147483647 : Int32)) % (5 : Int32))) (1 : Int32) (FP.l2d p1.toInt64) (FP.l2d p2.toInt64) (FP.l2d p3.toInt64) (FP.l2d p4.toInt64))), .second, .val (.double (own_e (own_min ((p5 &&& (2147483647 : Int32)) % (5 : Int32)) ((p6 &&& (2147483647 : Int32)) % (5 : Int32))) (own_max ((p5 &&& (2147483647 : Int32)) % (5 : Int32)) ((p6 &&& (2147483647 : Int32)) % (5 : Int32))) (2 : Int32) (FP.l2d p1.toInt64) (FP.l2d p2.toInt64) (FP.l2d p3.toInt64) (FP.l2d p4.toInt64))), .second, .val (.double (own_e (own_min ((p5 &&& (2147483647 : Int32)) % (5 : Int32)) ((p6 &&& (2147483647 : Int32)) % (5 : Int32))) (own_max ((p5 &&& (2147483647 : Int32)) % (5 : Int32)) ((p6 &&& (2147483647 : Int32)) % (5 : Int32))) (3 : Int32) (FP.l2d p1.toInt64) (FP.l2d p2.toInt64) (FP.l2d p3.toInt64) (FP.l2d p4.toInt64))), .second] [(.int (own_min ((p5 &&& (2147483647 : Int32)) % (5 : Int32)) ((p6 &&& (2147483647 : Int32)) % (5 : Int32)))), (.ref b1), (.double (own_e (own_min ((p5 &&& (2147483647 : Int32)) % (5 : Int32)) ((p6 &&& (2147483647 : Int32)) % (5 : Int32))) (own_max ((p5 &&& (2147483647 : Int32)) % (5 : Int32)) ((p6 &&& (2147483647 : Int32)) % (5 : Int32))) (1 : Int32) (FP.l2d p1.toInt64) (FP.l2d p2.toInt64) (FP.l2d p3.toInt64) (FP.l2d p4.toInt64)))]))
  refine Goes.pre (fun t kt => XS.iload X73.here hx rfl (hb hby at_186) rfl kt) ?_
  show Goes p e below s _ _ _ (T73.setTop (mkF m 188 #[.val (.int p1), .val (.int p2), .val (.int p3), .val (.int p4), .val (.int p5), .val (.int p6), .val (.ref b1), .val (.int ((p5 &&& (2147483647 : Int32)) % (5 : Int32))), .val (.int ((p6 &&& (2147483647 : Int32)) % (5 : Int32))), .val (.int (own_min ((p5 &&& (2147483647 : Int32)) % (5 : Int32)) ((p6 &&& (2147483647 : Int32)) % (5 : Int32)))), .val (.int (own_max ((p5 &&& (2147483647 : Int32)) % (5 : Int32)) ((p6 &&& (2147483647 : Int32)) % (5 : Int32)))), .val (.ref b8), .val (.double (own_e (own_min ((p5 &&& (2147483647 : Int32)) % (5 : Int32)) ((p6 &&& (2147483647 : Int32)) % (5 : Int32))) (own_max ((p5 &&& (2147483647 : Int32)) % (5 : Int32)) ((p6 &&& (2147483647 : Int32)) % (5 : Int32))) (0 : Int32) (FP.l2d p1.toInt64) (FP.l2d p2.toInt64) (FP.l2d p3.toInt64) (FP.l2d p4.toInt64))), .second, .val (.double (own_e (own_min ((p5 &&& (2147483647 : Int32)) % (5 : Int32)) ((p6 &&& (2147483647 : Int32)) % (5 : Int32))) (own_max ((p5 &&& (2147483647 : Int32)) % (5 : Int32)) ((p6 &&& (2147483647 : Int32)) % (5 : Int32))) (1 : Int32) (FP.l2d p1.toInt64) (FP.l2d p2.toInt64) (FP.l2d p3.toInt64) (FP.l2d p4.toInt64))), .second, .val (.double (own_e (own_min ((p5 &&& (2147483647 : Int32)) % (5 : Int32)) ((p6 &&& (2147483647 : Int32)) % (5 : Int32))) (own_max ((p5 &&& (2147483647 : Int32)) % (5 : Int32)) ((p6 &&& (2147483647 : Int32)) % (5 : Int32))) (2 : Int32) (FP.l2d p1.toInt64) (FP.l2d p2.toInt64) (FP.l2d p3.toInt64) (FP.l2d p4.toInt64))), .second, .val (.double (own_e (own_min ((p5 &&& (2147483647 : Int32)) % (5 : Int32)) ((p6 &&& (2147483647 : Int32)) % (5 : Int32))) (own_max ((p5 &&& (2147483647 : Int32)) % (5 : Int32)) ((p6 &&& (2147483647 : Int32)) % (5 : Int32))) (3 : Int32) (FP.l2d p1.toInt64) (FP.l2d p2.toInt64) (FP.l2d p3.toInt64) (FP.l2d p4.toInt64))), .second] [(.int (own_max ((p5 &&& (2147483647 : Int32)) % (5 : Int32)) ((p6 &&& (2147483647 : Int32)) % (5 : Int32)))), (.int (own_min ((p5 &&& (2147483647 : Int32)) % (5 : Int32)) ((p6 &&& (2147483647 : Int32)) % (5 : Int32)))), (.ref b1), (.double (own_e (own_min ((p5 &&& (2147483647 : Int32)) % (5 : Int32)) ((p6 &&& (2147483647 : Int32)) % (5 : Int32))) (own_max ((p5 &&& (2147483647 : Int32)) % (5 : Int32)) ((p6 &&& (2147483647 : Int32)) % (5 : Int32))) (1 : Int32) (FP.l2d p1.toInt64) (FP.l2d p2.toInt64) (FP.l2d p3.toInt64) (FP.l2d p4.toInt64)))]))
  refine Goes.pre (fun t kt => XS.iconst X73.here hx rfl (hb hby at_188) kt) ?_
  show Goes p e below s _ _ _ (T73.setTop (mkF m 189 #[.val (.int p1), .val (.int p2), .val (.int p3), .val (.int p4), .val (.int p5), .val (.int p6), .val (.ref b1), .val (.int ((p5 &&& (2147483647 : Int32)) % (5 : Int32))), .val (.int ((p6 &&& (2147483647 : Int32)) % (5 : Int32))), .val (.int (own_min ((p5 &&& (2147483647 : Int32)) % (5 : Int32)) ((p6 &&& (2147483647 : Int32)) % (5 : Int32)))), .val (.int (own_max ((p5 &&& (2147483647 : Int32)) % (5 : Int32)) ((p6 &&& (2147483647 : Int32)) % (5 : Int32)))), .val (.ref b8), .val (.double (own_e (own_min ((p5 &&& (2147483647 : Int32)) % (5 : Int32)) ((p6 &&& (2147483647 : Int32)) % (5 : Int32))) (own_max ((p5 &&& (2147483647 : Int32)) % (5 : Int32)) ((p6 &&& (2147483647 : Int32)) % (5 : Int32))) (0 : Int32) (FP.l2d p1.toInt64) (FP.l2d p2.toInt64) (FP.l2d p3.toInt64) (FP.l2d p4.toInt64))), .second, .val (.double (own_e (own_min ((p5 &&& (2147483647 : Int32)) % (5 : Int32)) ((p6 &&& (2147483647 : Int32)) % (5 : Int32))) (own_max ((p5 &&& (2147483647 : Int32)) % (5 : Int32)) ((p6 &&& (2147483647 : Int32)) % (5 : Int32))) (1 : Int32) (FP.l2d p1.toInt64) (FP.l2d p2.toInt64) (FP.l2d p3.toInt64) (FP.l2d p4.toInt64))), .second, .val (.double (own_e (own_min ((p5 &&& (2147483647 : Int32)) % (5 : Int32)) ((p6 &&& (2147483647 : Int32)) % (5 : Int32))) (own_max ((p5 &&& (2147483647 : Int32)) % (5 : Int32)) ((p6 &&& (2147483647 : Int32)) % (5 : Int32))) (2 : Int32) (FP.l2d p1.toInt64) (FP.l2d p2.toInt64) (FP.l2d p3.toInt64) (FP.l2d p4.toInt64))), .second, .val (.double (own_e (own_min ((p5 &&& (2147483647 : Int32)) % (5 : Int32)) ((p6 &&& (2147483647 : Int32)) % (5 : Int32))) (own_max ((p5 &&& (2147483647 : Int32)) % (5 : Int32)) ((p6 &&& (2147483647 : Int32)) % (5 : Int32))) (3 : Int32) (FP.l2d p1.toInt64) (FP.l2d p2.toInt64) (FP.l2d p3.toInt64) (FP.l2d p4.toInt64))), .second] [(.int (1 : Int32)), (.int (own_max ((p5 &&& (2147483647 : Int32)) % (5 : Int32)) ((p6 &&& (2147483647 : Int32)) % (5 : Int32)))), (.int (own_min ((p5 &&& (2147483647 : Int32)) % (5 : Int32)) ((p6 &&& (2147483647 : Int32)) % (5 : Int32)))), (.ref b1), (.double (own_e (own_min ((p5 &&& (2147483647 : Int32)) % (5 : Int32)) ((p6 &&& (2147483647 : Int32)) % (5 : Int32))) (own_max ((p5 &&& (2147483647 : Int32)) % (5 : Int32)) ((p6 &&& (2147483647 : Int32)) % (5 : Int32))) (1 : Int32) (FP.l2d p1.toInt64) (FP.l2d p2.toInt64) (FP.l2d p3.toInt64) (FP.l2d p4.toInt64)))]))
  obtain ⟨_, _, ⟨T74, L74, k74, n74⟩, -, X74, ⟨Lc74, hQ74, l74, y74, z74⟩, st74⟩ := Jvm.LawKit.callS X73 hx (y := (⟨"com/example/quantail/quantail/NumberArrayReversePinLaw", "expected", "([DIII)D"⟩ : MethodName)) hown (mvT hZ (hw _ (List.mem_of_getElem? (i := 64) rfl))) (mvT hZ (hw _ (List.mem_of_getElem? (i := 65) rfl))) (mvT hZ (hw _ (List.mem_of_getElem? (i := 66) rfl))) (mvT hZ (hw _ (List.mem_of_getElem? (i := 67) rfl))) (by decide) (backOf (W := 2) (rm13_1 l Z a0 hw [] b1 (own_min ((p5 &&& (2147483647 : Int32)) % (5 : Int32)) ((p6 &&& (2147483647 : Int32)) % (5 : Int32))) (own_max ((p5 &&& (2147483647 : Int32)) % (5 : Int32)) ((p6 &&& (2147483647 : Int32)) % (5 : Int32))) k1 (FP.l2d p1.toInt64) (FP.l2d p2.toInt64) (FP.l2d p3.toInt64) (FP.l2d p4.toInt64) h64 n0 Z64 fc72 (own_okLaw p5 p6)) hZ (hw _ (List.mem_of_getElem? (i := 67) rfl)) (hw _ (List.mem_of_getElem? (i := 66) rfl)) (by decide) (by decide)) (g := (mkF m 189 #[.val (.int p1), .val (.int p2), .val (.int p3), .val (.int p4), .val (.int p5), .val (.int p6), .val (.ref b1), .val (.int ((p5 &&& (2147483647 : Int32)) % (5 : Int32))), .val (.int ((p6 &&& (2147483647 : Int32)) % (5 : Int32))), .val (.int (own_min ((p5 &&& (2147483647 : Int32)) % (5 : Int32)) ((p6 &&& (2147483647 : Int32)) % (5 : Int32)))), .val (.int (own_max ((p5 &&& (2147483647 : Int32)) % (5 : Int32)) ((p6 &&& (2147483647 : Int32)) % (5 : Int32)))), .val (.ref b8), .val (.double (own_e (own_min ((p5 &&& (2147483647 : Int32)) % (5 : Int32)) ((p6 &&& (2147483647 : Int32)) % (5 : Int32))) (own_max ((p5 &&& (2147483647 : Int32)) % (5 : Int32)) ((p6 &&& (2147483647 : Int32)) % (5 : Int32))) (0 : Int32) (FP.l2d p1.toInt64) (FP.l2d p2.toInt64) (FP.l2d p3.toInt64) (FP.l2d p4.toInt64))), .second, .val (.double (own_e (own_min ((p5 &&& (2147483647 : Int32)) % (5 : Int32)) ((p6 &&& (2147483647 : Int32)) % (5 : Int32))) (own_max ((p5 &&& (2147483647 : Int32)) % (5 : Int32)) ((p6 &&& (2147483647 : Int32)) % (5 : Int32))) (1 : Int32) (FP.l2d p1.toInt64) (FP.l2d p2.toInt64) (FP.l2d p3.toInt64) (FP.l2d p4.toInt64))), .second, .val (.double (own_e (own_min ((p5 &&& (2147483647 : Int32)) % (5 : Int32)) ((p6 &&& (2147483647 : Int32)) % (5 : Int32))) (own_max ((p5 &&& (2147483647 : Int32)) % (5 : Int32)) ((p6 &&& (2147483647 : Int32)) % (5 : Int32))) (2 : Int32) (FP.l2d p1.toInt64) (FP.l2d p2.toInt64) (FP.l2d p3.toInt64) (FP.l2d p4.toInt64))), .second, .val (.double (own_e (own_min ((p5 &&& (2147483647 : Int32)) % (5 : Int32)) ((p6 &&& (2147483647 : Int32)) % (5 : Int32))) (own_max ((p5 &&& (2147483647 : Int32)) % (5 : Int32)) ((p6 &&& (2147483647 : Int32)) % (5 : Int32))) (3 : Int32) (FP.l2d p1.toInt64) (FP.l2d p2.toInt64) (FP.l2d p3.toInt64) (FP.l2d p4.toInt64))), .second] [(.int (1 : Int32)), (.int (own_max ((p5 &&& (2147483647 : Int32)) % (5 : Int32)) ((p6 &&& (2147483647 : Int32)) % (5 : Int32)))), (.int (own_min ((p5 &&& (2147483647 : Int32)) % (5 : Int32)) ((p6 &&& (2147483647 : Int32)) % (5 : Int32)))), (.ref b1), (.double (own_e (own_min ((p5 &&& (2147483647 : Int32)) % (5 : Int32)) ((p6 &&& (2147483647 : Int32)) % (5 : Int32))) (own_max ((p5 &&& (2147483647 : Int32)) % (5 : Int32)) ((p6 &&& (2147483647 : Int32)) % (5 : Int32))) (1 : Int32) (FP.l2d p1.toInt64) (FP.l2d p2.toInt64) (FP.l2d p3.toInt64) (FP.l2d p4.toInt64)))])) rfl (by rw [hml]; rfl) (argsL := [(.ref b1), (.int (own_min ((p5 &&& (2147483647 : Int32)) % (5 : Int32)) ((p6 &&& (2147483647 : Int32)) % (5 : Int32)))), (.int (own_max ((p5 &&& (2147483647 : Int32)) % (5 : Int32)) ((p6 &&& (2147483647 : Int32)) % (5 : Int32)))), (.int (1 : Int32))]) (rest := [(.double (own_e (own_min ((p5 &&& (2147483647 : Int32)) % (5 : Int32)) ((p6 &&& (2147483647 : Int32)) % (5 : Int32))) (own_max ((p5 &&& (2147483647 : Int32)) % (5 : Int32)) ((p6 &&& (2147483647 : Int32)) % (5 : Int32))) (1 : Int32) (FP.l2d p1.toInt64) (FP.l2d p2.toInt64) (FP.l2d p3.toInt64) (FP.l2d p4.toInt64)))]) (lenOf pd_14 rfl) rfl (by show 2 * 0 + _ ≤ _; exact Nat.le_of_eq rfl) (hb hby at_189) (fun _ _ => ⟨rfl, eq73, (by decide : 7 + 0 ≤ _), (by decide : 13 + 0 ≤ _)⟩)
  dsimp only [Pt.U, Pt.locs, Pt.cells, Pt.slots] at X74 l74 y74 z74 st74 hQ74
  rw [l74, y74, z74] at X74
  obtain ⟨rfl, Nq74, eq74⟩ := hQ74
  refine Goes.pre st74 ?_
  have N74 := Fr.app N73 Nq74
  show Goes p e below s _ _ _ (T74.setTop (mkF m 192 #[.val (.int p1), .val (.int p2), .val (.int p3), .val (.int p4), .val (.int p5), .val (.int p6), .val (.ref b1), .val (.int ((p5 &&& (2147483647 : Int32)) % (5 : Int32))), .val (.int ((p6 &&& (2147483647 : Int32)) % (5 : Int32))), .val (.int (own_min ((p5 &&& (2147483647 : Int32)) % (5 : Int32)) ((p6 &&& (2147483647 : Int32)) % (5 : Int32)))), .val (.int (own_max ((p5 &&& (2147483647 : Int32)) % (5 : Int32)) ((p6 &&& (2147483647 : Int32)) % (5 : Int32)))), .val (.ref b8), .val (.double (own_e (own_min ((p5 &&& (2147483647 : Int32)) % (5 : Int32)) ((p6 &&& (2147483647 : Int32)) % (5 : Int32))) (own_max ((p5 &&& (2147483647 : Int32)) % (5 : Int32)) ((p6 &&& (2147483647 : Int32)) % (5 : Int32))) (0 : Int32) (FP.l2d p1.toInt64) (FP.l2d p2.toInt64) (FP.l2d p3.toInt64) (FP.l2d p4.toInt64))), .second, .val (.double (own_e (own_min ((p5 &&& (2147483647 : Int32)) % (5 : Int32)) ((p6 &&& (2147483647 : Int32)) % (5 : Int32))) (own_max ((p5 &&& (2147483647 : Int32)) % (5 : Int32)) ((p6 &&& (2147483647 : Int32)) % (5 : Int32))) (1 : Int32) (FP.l2d p1.toInt64) (FP.l2d p2.toInt64) (FP.l2d p3.toInt64) (FP.l2d p4.toInt64))), .second, .val (.double (own_e (own_min ((p5 &&& (2147483647 : Int32)) % (5 : Int32)) ((p6 &&& (2147483647 : Int32)) % (5 : Int32))) (own_max ((p5 &&& (2147483647 : Int32)) % (5 : Int32)) ((p6 &&& (2147483647 : Int32)) % (5 : Int32))) (2 : Int32) (FP.l2d p1.toInt64) (FP.l2d p2.toInt64) (FP.l2d p3.toInt64) (FP.l2d p4.toInt64))), .second, .val (.double (own_e (own_min ((p5 &&& (2147483647 : Int32)) % (5 : Int32)) ((p6 &&& (2147483647 : Int32)) % (5 : Int32))) (own_max ((p5 &&& (2147483647 : Int32)) % (5 : Int32)) ((p6 &&& (2147483647 : Int32)) % (5 : Int32))) (3 : Int32) (FP.l2d p1.toInt64) (FP.l2d p2.toInt64) (FP.l2d p3.toInt64) (FP.l2d p4.toInt64))), .second] [(.double (own_e (own_min ((p5 &&& (2147483647 : Int32)) % (5 : Int32)) ((p6 &&& (2147483647 : Int32)) % (5 : Int32))) (own_max ((p5 &&& (2147483647 : Int32)) % (5 : Int32)) ((p6 &&& (2147483647 : Int32)) % (5 : Int32))) (1 : Int32) (FP.l2d p1.toInt64) (FP.l2d p2.toInt64) (FP.l2d p3.toInt64) (FP.l2d p4.toInt64))), (.double (own_e (own_min ((p5 &&& (2147483647 : Int32)) % (5 : Int32)) ((p6 &&& (2147483647 : Int32)) % (5 : Int32))) (own_max ((p5 &&& (2147483647 : Int32)) % (5 : Int32)) ((p6 &&& (2147483647 : Int32)) % (5 : Int32))) (1 : Int32) (FP.l2d p1.toInt64) (FP.l2d p2.toInt64) (FP.l2d p3.toInt64) (FP.l2d p4.toInt64)))]))
  refine Goes.pre (fun t kt => XS.dcmpS X74.here hx rfl (hb hby at_192) rfl (v := (0 : Int32)) (dcmpV_self own_nn _) kt) ?_
  show Goes p e below s _ _ _ (T74.setTop (mkF m 193 #[.val (.int p1), .val (.int p2), .val (.int p3), .val (.int p4), .val (.int p5), .val (.int p6), .val (.ref b1), .val (.int ((p5 &&& (2147483647 : Int32)) % (5 : Int32))), .val (.int ((p6 &&& (2147483647 : Int32)) % (5 : Int32))), .val (.int (own_min ((p5 &&& (2147483647 : Int32)) % (5 : Int32)) ((p6 &&& (2147483647 : Int32)) % (5 : Int32)))), .val (.int (own_max ((p5 &&& (2147483647 : Int32)) % (5 : Int32)) ((p6 &&& (2147483647 : Int32)) % (5 : Int32)))), .val (.ref b8), .val (.double (own_e (own_min ((p5 &&& (2147483647 : Int32)) % (5 : Int32)) ((p6 &&& (2147483647 : Int32)) % (5 : Int32))) (own_max ((p5 &&& (2147483647 : Int32)) % (5 : Int32)) ((p6 &&& (2147483647 : Int32)) % (5 : Int32))) (0 : Int32) (FP.l2d p1.toInt64) (FP.l2d p2.toInt64) (FP.l2d p3.toInt64) (FP.l2d p4.toInt64))), .second, .val (.double (own_e (own_min ((p5 &&& (2147483647 : Int32)) % (5 : Int32)) ((p6 &&& (2147483647 : Int32)) % (5 : Int32))) (own_max ((p5 &&& (2147483647 : Int32)) % (5 : Int32)) ((p6 &&& (2147483647 : Int32)) % (5 : Int32))) (1 : Int32) (FP.l2d p1.toInt64) (FP.l2d p2.toInt64) (FP.l2d p3.toInt64) (FP.l2d p4.toInt64))), .second, .val (.double (own_e (own_min ((p5 &&& (2147483647 : Int32)) % (5 : Int32)) ((p6 &&& (2147483647 : Int32)) % (5 : Int32))) (own_max ((p5 &&& (2147483647 : Int32)) % (5 : Int32)) ((p6 &&& (2147483647 : Int32)) % (5 : Int32))) (2 : Int32) (FP.l2d p1.toInt64) (FP.l2d p2.toInt64) (FP.l2d p3.toInt64) (FP.l2d p4.toInt64))), .second, .val (.double (own_e (own_min ((p5 &&& (2147483647 : Int32)) % (5 : Int32)) ((p6 &&& (2147483647 : Int32)) % (5 : Int32))) (own_max ((p5 &&& (2147483647 : Int32)) % (5 : Int32)) ((p6 &&& (2147483647 : Int32)) % (5 : Int32))) (3 : Int32) (FP.l2d p1.toInt64) (FP.l2d p2.toInt64) (FP.l2d p3.toInt64) (FP.l2d p4.toInt64))), .second] [(.int (0 : Int32))]))
  refine Goes.pre (fun t kt => XS.ifNo X74.here hx rfl (hb hby at_193) rfl (Jvm.Free.XT.i0_ne_f ((by decide))) kt) ?_
  show Goes p e below s _ _ _ (T74.setTop (mkF m 196 #[.val (.int p1), .val (.int p2), .val (.int p3), .val (.int p4), .val (.int p5), .val (.int p6), .val (.ref b1), .val (.int ((p5 &&& (2147483647 : Int32)) % (5 : Int32))), .val (.int ((p6 &&& (2147483647 : Int32)) % (5 : Int32))), .val (.int (own_min ((p5 &&& (2147483647 : Int32)) % (5 : Int32)) ((p6 &&& (2147483647 : Int32)) % (5 : Int32)))), .val (.int (own_max ((p5 &&& (2147483647 : Int32)) % (5 : Int32)) ((p6 &&& (2147483647 : Int32)) % (5 : Int32)))), .val (.ref b8), .val (.double (own_e (own_min ((p5 &&& (2147483647 : Int32)) % (5 : Int32)) ((p6 &&& (2147483647 : Int32)) % (5 : Int32))) (own_max ((p5 &&& (2147483647 : Int32)) % (5 : Int32)) ((p6 &&& (2147483647 : Int32)) % (5 : Int32))) (0 : Int32) (FP.l2d p1.toInt64) (FP.l2d p2.toInt64) (FP.l2d p3.toInt64) (FP.l2d p4.toInt64))), .second, .val (.double (own_e (own_min ((p5 &&& (2147483647 : Int32)) % (5 : Int32)) ((p6 &&& (2147483647 : Int32)) % (5 : Int32))) (own_max ((p5 &&& (2147483647 : Int32)) % (5 : Int32)) ((p6 &&& (2147483647 : Int32)) % (5 : Int32))) (1 : Int32) (FP.l2d p1.toInt64) (FP.l2d p2.toInt64) (FP.l2d p3.toInt64) (FP.l2d p4.toInt64))), .second, .val (.double (own_e (own_min ((p5 &&& (2147483647 : Int32)) % (5 : Int32)) ((p6 &&& (2147483647 : Int32)) % (5 : Int32))) (own_max ((p5 &&& (2147483647 : Int32)) % (5 : Int32)) ((p6 &&& (2147483647 : Int32)) % (5 : Int32))) (2 : Int32) (FP.l2d p1.toInt64) (FP.l2d p2.toInt64) (FP.l2d p3.toInt64) (FP.l2d p4.toInt64))), .second, .val (.double (own_e (own_min ((p5 &&& (2147483647 : Int32)) % (5 : Int32)) ((p6 &&& (2147483647 : Int32)) % (5 : Int32))) (own_max ((p5 &&& (2147483647 : Int32)) % (5 : Int32)) ((p6 &&& (2147483647 : Int32)) % (5 : Int32))) (3 : Int32) (FP.l2d p1.toInt64) (FP.l2d p2.toInt64) (FP.l2d p3.toInt64) (FP.l2d p4.toInt64))), .second] []))
  refine Goes.pre (fun t kt => XS.dload X74.here hx rfl (hb hby at_196) rfl kt) ?_
  show Goes p e below s _ _ _ (T74.setTop (mkF m 198 #[.val (.int p1), .val (.int p2), .val (.int p3), .val (.int p4), .val (.int p5), .val (.int p6), .val (.ref b1), .val (.int ((p5 &&& (2147483647 : Int32)) % (5 : Int32))), .val (.int ((p6 &&& (2147483647 : Int32)) % (5 : Int32))), .val (.int (own_min ((p5 &&& (2147483647 : Int32)) % (5 : Int32)) ((p6 &&& (2147483647 : Int32)) % (5 : Int32)))), .val (.int (own_max ((p5 &&& (2147483647 : Int32)) % (5 : Int32)) ((p6 &&& (2147483647 : Int32)) % (5 : Int32)))), .val (.ref b8), .val (.double (own_e (own_min ((p5 &&& (2147483647 : Int32)) % (5 : Int32)) ((p6 &&& (2147483647 : Int32)) % (5 : Int32))) (own_max ((p5 &&& (2147483647 : Int32)) % (5 : Int32)) ((p6 &&& (2147483647 : Int32)) % (5 : Int32))) (0 : Int32) (FP.l2d p1.toInt64) (FP.l2d p2.toInt64) (FP.l2d p3.toInt64) (FP.l2d p4.toInt64))), .second, .val (.double (own_e (own_min ((p5 &&& (2147483647 : Int32)) % (5 : Int32)) ((p6 &&& (2147483647 : Int32)) % (5 : Int32))) (own_max ((p5 &&& (2147483647 : Int32)) % (5 : Int32)) ((p6 &&& (2147483647 : Int32)) % (5 : Int32))) (1 : Int32) (FP.l2d p1.toInt64) (FP.l2d p2.toInt64) (FP.l2d p3.toInt64) (FP.l2d p4.toInt64))), .second, .val (.double (own_e (own_min ((p5 &&& (2147483647 : Int32)) % (5 : Int32)) ((p6 &&& (2147483647 : Int32)) % (5 : Int32))) (own_max ((p5 &&& (2147483647 : Int32)) % (5 : Int32)) ((p6 &&& (2147483647 : Int32)) % (5 : Int32))) (2 : Int32) (FP.l2d p1.toInt64) (FP.l2d p2.toInt64) (FP.l2d p3.toInt64) (FP.l2d p4.toInt64))), .second, .val (.double (own_e (own_min ((p5 &&& (2147483647 : Int32)) % (5 : Int32)) ((p6 &&& (2147483647 : Int32)) % (5 : Int32))) (own_max ((p5 &&& (2147483647 : Int32)) % (5 : Int32)) ((p6 &&& (2147483647 : Int32)) % (5 : Int32))) (3 : Int32) (FP.l2d p1.toInt64) (FP.l2d p2.toInt64) (FP.l2d p3.toInt64) (FP.l2d p4.toInt64))), .second] [(.double (own_e (own_min ((p5 &&& (2147483647 : Int32)) % (5 : Int32)) ((p6 &&& (2147483647 : Int32)) % (5 : Int32))) (own_max ((p5 &&& (2147483647 : Int32)) % (5 : Int32)) ((p6 &&& (2147483647 : Int32)) % (5 : Int32))) (2 : Int32) (FP.l2d p1.toInt64) (FP.l2d p2.toInt64) (FP.l2d p3.toInt64) (FP.l2d p4.toInt64)))]))
  refine Goes.pre (fun t kt => XS.aload X74.here hx rfl (hb hby at_198) rfl rfl kt) ?_
  show Goes p e below s _ _ _ (T74.setTop (mkF m 200 #[.val (.int p1), .val (.int p2), .val (.int p3), .val (.int p4), .val (.int p5), .val (.int p6), .val (.ref b1), .val (.int ((p5 &&& (2147483647 : Int32)) % (5 : Int32))), .val (.int ((p6 &&& (2147483647 : Int32)) % (5 : Int32))), .val (.int (own_min ((p5 &&& (2147483647 : Int32)) % (5 : Int32)) ((p6 &&& (2147483647 : Int32)) % (5 : Int32)))), .val (.int (own_max ((p5 &&& (2147483647 : Int32)) % (5 : Int32)) ((p6 &&& (2147483647 : Int32)) % (5 : Int32)))), .val (.ref b8), .val (.double (own_e (own_min ((p5 &&& (2147483647 : Int32)) % (5 : Int32)) ((p6 &&& (2147483647 : Int32)) % (5 : Int32))) (own_max ((p5 &&& (2147483647 : Int32)) % (5 : Int32)) ((p6 &&& (2147483647 : Int32)) % (5 : Int32))) (0 : Int32) (FP.l2d p1.toInt64) (FP.l2d p2.toInt64) (FP.l2d p3.toInt64) (FP.l2d p4.toInt64))), .second, .val (.double (own_e (own_min ((p5 &&& (2147483647 : Int32)) % (5 : Int32)) ((p6 &&& (2147483647 : Int32)) % (5 : Int32))) (own_max ((p5 &&& (2147483647 : Int32)) % (5 : Int32)) ((p6 &&& (2147483647 : Int32)) % (5 : Int32))) (1 : Int32) (FP.l2d p1.toInt64) (FP.l2d p2.toInt64) (FP.l2d p3.toInt64) (FP.l2d p4.toInt64))), .second, .val (.double (own_e (own_min ((p5 &&& (2147483647 : Int32)) % (5 : Int32)) ((p6 &&& (2147483647 : Int32)) % (5 : Int32))) (own_max ((p5 &&& (2147483647 : Int32)) % (5 : Int32)) ((p6 &&& (2147483647 : Int32)) % (5 : Int32))) (2 : Int32) (FP.l2d p1.toInt64) (FP.l2d p2.toInt64) (FP.l2d p3.toInt64) (FP.l2d p4.toInt64))), .second, .val (.double (own_e (own_min ((p5 &&& (2147483647 : Int32)) % (5 : Int32)) ((p6 &&& (2147483647 : Int32)) % (5 : Int32))) (own_max ((p5 &&& (2147483647 : Int32)) % (5 : Int32)) ((p6 &&& (2147483647 : Int32)) % (5 : Int32))) (3 : Int32) (FP.l2d p1.toInt64) (FP.l2d p2.toInt64) (FP.l2d p3.toInt64) (FP.l2d p4.toInt64))), .second] [(.ref b1), (.double (own_e (own_min ((p5 &&& (2147483647 : Int32)) % (5 : Int32)) ((p6 &&& (2147483647 : Int32)) % (5 : Int32))) (own_max ((p5 &&& (2147483647 : Int32)) % (5 : Int32)) ((p6 &&& (2147483647 : Int32)) % (5 : Int32))) (2 : Int32) (FP.l2d p1.toInt64) (FP.l2d p2.toInt64) (FP.l2d p3.toInt64) (FP.l2d p4.toInt64)))]))
  refine Goes.pre (fun t kt => XS.iload X74.here hx rfl (hb hby at_200) rfl kt) ?_
  show Goes p e below s _ _ _ (T74.setTop (mkF m 202 #[.val (.int p1), .val (.int p2), .val (.int p3), .val (.int p4), .val (.int p5), .val (.int p6), .val (.ref b1), .val (.int ((p5 &&& (2147483647 : Int32)) % (5 : Int32))), .val (.int ((p6 &&& (2147483647 : Int32)) % (5 : Int32))), .val (.int (own_min ((p5 &&& (2147483647 : Int32)) % (5 : Int32)) ((p6 &&& (2147483647 : Int32)) % (5 : Int32)))), .val (.int (own_max ((p5 &&& (2147483647 : Int32)) % (5 : Int32)) ((p6 &&& (2147483647 : Int32)) % (5 : Int32)))), .val (.ref b8), .val (.double (own_e (own_min ((p5 &&& (2147483647 : Int32)) % (5 : Int32)) ((p6 &&& (2147483647 : Int32)) % (5 : Int32))) (own_max ((p5 &&& (2147483647 : Int32)) % (5 : Int32)) ((p6 &&& (2147483647 : Int32)) % (5 : Int32))) (0 : Int32) (FP.l2d p1.toInt64) (FP.l2d p2.toInt64) (FP.l2d p3.toInt64) (FP.l2d p4.toInt64))), .second, .val (.double (own_e (own_min ((p5 &&& (2147483647 : Int32)) % (5 : Int32)) ((p6 &&& (2147483647 : Int32)) % (5 : Int32))) (own_max ((p5 &&& (2147483647 : Int32)) % (5 : Int32)) ((p6 &&& (2147483647 : Int32)) % (5 : Int32))) (1 : Int32) (FP.l2d p1.toInt64) (FP.l2d p2.toInt64) (FP.l2d p3.toInt64) (FP.l2d p4.toInt64))), .second, .val (.double (own_e (own_min ((p5 &&& (2147483647 : Int32)) % (5 : Int32)) ((p6 &&& (2147483647 : Int32)) % (5 : Int32))) (own_max ((p5 &&& (2147483647 : Int32)) % (5 : Int32)) ((p6 &&& (2147483647 : Int32)) % (5 : Int32))) (2 : Int32) (FP.l2d p1.toInt64) (FP.l2d p2.toInt64) (FP.l2d p3.toInt64) (FP.l2d p4.toInt64))), .second, .val (.double (own_e (own_min ((p5 &&& (2147483647 : Int32)) % (5 : Int32)) ((p6 &&& (2147483647 : Int32)) % (5 : Int32))) (own_max ((p5 &&& (2147483647 : Int32)) % (5 : Int32)) ((p6 &&& (2147483647 : Int32)) % (5 : Int32))) (3 : Int32) (FP.l2d p1.toInt64) (FP.l2d p2.toInt64) (FP.l2d p3.toInt64) (FP.l2d p4.toInt64))), .second] [(.int (own_min ((p5 &&& (2147483647 : Int32)) % (5 : Int32)) ((p6 &&& (2147483647 : Int32)) % (5 : Int32)))), (.ref b1), (.double (own_e (own_min ((p5 &&& (2147483647 : Int32)) % (5 : Int32)) ((p6 &&& (2147483647 : Int32)) % (5 : Int32))) (own_max ((p5 &&& (2147483647 : Int32)) % (5 : Int32)) ((p6 &&& (2147483647 : Int32)) % (5 : Int32))) (2 : Int32) (FP.l2d p1.toInt64) (FP.l2d p2.toInt64) (FP.l2d p3.toInt64) (FP.l2d p4.toInt64)))]))
  refine Goes.pre (fun t kt => XS.iload X74.here hx rfl (hb hby at_202) rfl kt) ?_
  show Goes p e below s _ _ _ (T74.setTop (mkF m 204 #[.val (.int p1), .val (.int p2), .val (.int p3), .val (.int p4), .val (.int p5), .val (.int p6), .val (.ref b1), .val (.int ((p5 &&& (2147483647 : Int32)) % (5 : Int32))), .val (.int ((p6 &&& (2147483647 : Int32)) % (5 : Int32))), .val (.int (own_min ((p5 &&& (2147483647 : Int32)) % (5 : Int32)) ((p6 &&& (2147483647 : Int32)) % (5 : Int32)))), .val (.int (own_max ((p5 &&& (2147483647 : Int32)) % (5 : Int32)) ((p6 &&& (2147483647 : Int32)) % (5 : Int32)))), .val (.ref b8), .val (.double (own_e (own_min ((p5 &&& (2147483647 : Int32)) % (5 : Int32)) ((p6 &&& (2147483647 : Int32)) % (5 : Int32))) (own_max ((p5 &&& (2147483647 : Int32)) % (5 : Int32)) ((p6 &&& (2147483647 : Int32)) % (5 : Int32))) (0 : Int32) (FP.l2d p1.toInt64) (FP.l2d p2.toInt64) (FP.l2d p3.toInt64) (FP.l2d p4.toInt64))), .second, .val (.double (own_e (own_min ((p5 &&& (2147483647 : Int32)) % (5 : Int32)) ((p6 &&& (2147483647 : Int32)) % (5 : Int32))) (own_max ((p5 &&& (2147483647 : Int32)) % (5 : Int32)) ((p6 &&& (2147483647 : Int32)) % (5 : Int32))) (1 : Int32) (FP.l2d p1.toInt64) (FP.l2d p2.toInt64) (FP.l2d p3.toInt64) (FP.l2d p4.toInt64))), .second, .val (.double (own_e (own_min ((p5 &&& (2147483647 : Int32)) % (5 : Int32)) ((p6 &&& (2147483647 : Int32)) % (5 : Int32))) (own_max ((p5 &&& (2147483647 : Int32)) % (5 : Int32)) ((p6 &&& (2147483647 : Int32)) % (5 : Int32))) (2 : Int32) (FP.l2d p1.toInt64) (FP.l2d p2.toInt64) (FP.l2d p3.toInt64) (FP.l2d p4.toInt64))), .second, .val (.double (own_e (own_min ((p5 &&& (2147483647 : Int32)) % (5 : Int32)) ((p6 &&& (2147483647 : Int32)) % (5 : Int32))) (own_max ((p5 &&& (2147483647 : Int32)) % (5 : Int32)) ((p6 &&& (2147483647 : Int32)) % (5 : Int32))) (3 : Int32) (FP.l2d p1.toInt64) (FP.l2d p2.toInt64) (FP.l2d p3.toInt64) (FP.l2d p4.toInt64))), .second] [(.int (own_max ((p5 &&& (2147483647 : Int32)) % (5 : Int32)) ((p6 &&& (2147483647 : Int32)) % (5 : Int32)))), (.int (own_min ((p5 &&& (2147483647 : Int32)) % (5 : Int32)) ((p6 &&& (2147483647 : Int32)) % (5 : Int32)))), (.ref b1), (.double (own_e (own_min ((p5 &&& (2147483647 : Int32)) % (5 : Int32)) ((p6 &&& (2147483647 : Int32)) % (5 : Int32))) (own_max ((p5 &&& (2147483647 : Int32)) % (5 : Int32)) ((p6 &&& (2147483647 : Int32)) % (5 : Int32))) (2 : Int32) (FP.l2d p1.toInt64) (FP.l2d p2.toInt64) (FP.l2d p3.toInt64) (FP.l2d p4.toInt64)))]))
  refine Goes.pre (fun t kt => XS.iconst X74.here hx rfl (hb hby at_204) kt) ?_
  show Goes p e below s _ _ _ (T74.setTop (mkF m 205 #[.val (.int p1), .val (.int p2), .val (.int p3), .val (.int p4), .val (.int p5), .val (.int p6), .val (.ref b1), .val (.int ((p5 &&& (2147483647 : Int32)) % (5 : Int32))), .val (.int ((p6 &&& (2147483647 : Int32)) % (5 : Int32))), .val (.int (own_min ((p5 &&& (2147483647 : Int32)) % (5 : Int32)) ((p6 &&& (2147483647 : Int32)) % (5 : Int32)))), .val (.int (own_max ((p5 &&& (2147483647 : Int32)) % (5 : Int32)) ((p6 &&& (2147483647 : Int32)) % (5 : Int32)))), .val (.ref b8), .val (.double (own_e (own_min ((p5 &&& (2147483647 : Int32)) % (5 : Int32)) ((p6 &&& (2147483647 : Int32)) % (5 : Int32))) (own_max ((p5 &&& (2147483647 : Int32)) % (5 : Int32)) ((p6 &&& (2147483647 : Int32)) % (5 : Int32))) (0 : Int32) (FP.l2d p1.toInt64) (FP.l2d p2.toInt64) (FP.l2d p3.toInt64) (FP.l2d p4.toInt64))), .second, .val (.double (own_e (own_min ((p5 &&& (2147483647 : Int32)) % (5 : Int32)) ((p6 &&& (2147483647 : Int32)) % (5 : Int32))) (own_max ((p5 &&& (2147483647 : Int32)) % (5 : Int32)) ((p6 &&& (2147483647 : Int32)) % (5 : Int32))) (1 : Int32) (FP.l2d p1.toInt64) (FP.l2d p2.toInt64) (FP.l2d p3.toInt64) (FP.l2d p4.toInt64))), .second, .val (.double (own_e (own_min ((p5 &&& (2147483647 : Int32)) % (5 : Int32)) ((p6 &&& (2147483647 : Int32)) % (5 : Int32))) (own_max ((p5 &&& (2147483647 : Int32)) % (5 : Int32)) ((p6 &&& (2147483647 : Int32)) % (5 : Int32))) (2 : Int32) (FP.l2d p1.toInt64) (FP.l2d p2.toInt64) (FP.l2d p3.toInt64) (FP.l2d p4.toInt64))), .second, .val (.double (own_e (own_min ((p5 &&& (2147483647 : Int32)) % (5 : Int32)) ((p6 &&& (2147483647 : Int32)) % (5 : Int32))) (own_max ((p5 &&& (2147483647 : Int32)) % (5 : Int32)) ((p6 &&& (2147483647 : Int32)) % (5 : Int32))) (3 : Int32) (FP.l2d p1.toInt64) (FP.l2d p2.toInt64) (FP.l2d p3.toInt64) (FP.l2d p4.toInt64))), .second] [(.int (2 : Int32)), (.int (own_max ((p5 &&& (2147483647 : Int32)) % (5 : Int32)) ((p6 &&& (2147483647 : Int32)) % (5 : Int32)))), (.int (own_min ((p5 &&& (2147483647 : Int32)) % (5 : Int32)) ((p6 &&& (2147483647 : Int32)) % (5 : Int32)))), (.ref b1), (.double (own_e (own_min ((p5 &&& (2147483647 : Int32)) % (5 : Int32)) ((p6 &&& (2147483647 : Int32)) % (5 : Int32))) (own_max ((p5 &&& (2147483647 : Int32)) % (5 : Int32)) ((p6 &&& (2147483647 : Int32)) % (5 : Int32))) (2 : Int32) (FP.l2d p1.toInt64) (FP.l2d p2.toInt64) (FP.l2d p3.toInt64) (FP.l2d p4.toInt64)))]))
  obtain ⟨_, _, ⟨T75, L75, k75, n75⟩, -, X75, ⟨Lc75, hQ75, l75, y75, z75⟩, st75⟩ := Jvm.LawKit.callS X74 hx (y := (⟨"com/example/quantail/quantail/NumberArrayReversePinLaw", "expected", "([DIII)D"⟩ : MethodName)) hown (mvT hZ (hw _ (List.mem_of_getElem? (i := 64) rfl))) (mvT hZ (hw _ (List.mem_of_getElem? (i := 65) rfl))) (mvT hZ (hw _ (List.mem_of_getElem? (i := 66) rfl))) (mvT hZ (hw _ (List.mem_of_getElem? (i := 67) rfl))) (by decide) (backOf (W := 2) (rm13_2 l Z a0 hw [] b1 (own_min ((p5 &&& (2147483647 : Int32)) % (5 : Int32)) ((p6 &&& (2147483647 : Int32)) % (5 : Int32))) (own_max ((p5 &&& (2147483647 : Int32)) % (5 : Int32)) ((p6 &&& (2147483647 : Int32)) % (5 : Int32))) k1 (FP.l2d p1.toInt64) (FP.l2d p2.toInt64) (FP.l2d p3.toInt64) (FP.l2d p4.toInt64) h64 n0 Z64 fc72 (own_okLaw p5 p6)) hZ (hw _ (List.mem_of_getElem? (i := 67) rfl)) (hw _ (List.mem_of_getElem? (i := 66) rfl)) (by decide) (by decide)) (g := (mkF m 205 #[.val (.int p1), .val (.int p2), .val (.int p3), .val (.int p4), .val (.int p5), .val (.int p6), .val (.ref b1), .val (.int ((p5 &&& (2147483647 : Int32)) % (5 : Int32))), .val (.int ((p6 &&& (2147483647 : Int32)) % (5 : Int32))), .val (.int (own_min ((p5 &&& (2147483647 : Int32)) % (5 : Int32)) ((p6 &&& (2147483647 : Int32)) % (5 : Int32)))), .val (.int (own_max ((p5 &&& (2147483647 : Int32)) % (5 : Int32)) ((p6 &&& (2147483647 : Int32)) % (5 : Int32)))), .val (.ref b8), .val (.double (own_e (own_min ((p5 &&& (2147483647 : Int32)) % (5 : Int32)) ((p6 &&& (2147483647 : Int32)) % (5 : Int32))) (own_max ((p5 &&& (2147483647 : Int32)) % (5 : Int32)) ((p6 &&& (2147483647 : Int32)) % (5 : Int32))) (0 : Int32) (FP.l2d p1.toInt64) (FP.l2d p2.toInt64) (FP.l2d p3.toInt64) (FP.l2d p4.toInt64))), .second, .val (.double (own_e (own_min ((p5 &&& (2147483647 : Int32)) % (5 : Int32)) ((p6 &&& (2147483647 : Int32)) % (5 : Int32))) (own_max ((p5 &&& (2147483647 : Int32)) % (5 : Int32)) ((p6 &&& (2147483647 : Int32)) % (5 : Int32))) (1 : Int32) (FP.l2d p1.toInt64) (FP.l2d p2.toInt64) (FP.l2d p3.toInt64) (FP.l2d p4.toInt64))), .second, .val (.double (own_e (own_min ((p5 &&& (2147483647 : Int32)) % (5 : Int32)) ((p6 &&& (2147483647 : Int32)) % (5 : Int32))) (own_max ((p5 &&& (2147483647 : Int32)) % (5 : Int32)) ((p6 &&& (2147483647 : Int32)) % (5 : Int32))) (2 : Int32) (FP.l2d p1.toInt64) (FP.l2d p2.toInt64) (FP.l2d p3.toInt64) (FP.l2d p4.toInt64))), .second, .val (.double (own_e (own_min ((p5 &&& (2147483647 : Int32)) % (5 : Int32)) ((p6 &&& (2147483647 : Int32)) % (5 : Int32))) (own_max ((p5 &&& (2147483647 : Int32)) % (5 : Int32)) ((p6 &&& (2147483647 : Int32)) % (5 : Int32))) (3 : Int32) (FP.l2d p1.toInt64) (FP.l2d p2.toInt64) (FP.l2d p3.toInt64) (FP.l2d p4.toInt64))), .second] [(.int (2 : Int32)), (.int (own_max ((p5 &&& (2147483647 : Int32)) % (5 : Int32)) ((p6 &&& (2147483647 : Int32)) % (5 : Int32)))), (.int (own_min ((p5 &&& (2147483647 : Int32)) % (5 : Int32)) ((p6 &&& (2147483647 : Int32)) % (5 : Int32)))), (.ref b1), (.double (own_e (own_min ((p5 &&& (2147483647 : Int32)) % (5 : Int32)) ((p6 &&& (2147483647 : Int32)) % (5 : Int32))) (own_max ((p5 &&& (2147483647 : Int32)) % (5 : Int32)) ((p6 &&& (2147483647 : Int32)) % (5 : Int32))) (2 : Int32) (FP.l2d p1.toInt64) (FP.l2d p2.toInt64) (FP.l2d p3.toInt64) (FP.l2d p4.toInt64)))])) rfl (by rw [hml]; rfl) (argsL := [(.ref b1), (.int (own_min ((p5 &&& (2147483647 : Int32)) % (5 : Int32)) ((p6 &&& (2147483647 : Int32)) % (5 : Int32)))), (.int (own_max ((p5 &&& (2147483647 : Int32)) % (5 : Int32)) ((p6 &&& (2147483647 : Int32)) % (5 : Int32)))), (.int (2 : Int32))]) (rest := [(.double (own_e (own_min ((p5 &&& (2147483647 : Int32)) % (5 : Int32)) ((p6 &&& (2147483647 : Int32)) % (5 : Int32))) (own_max ((p5 &&& (2147483647 : Int32)) % (5 : Int32)) ((p6 &&& (2147483647 : Int32)) % (5 : Int32))) (2 : Int32) (FP.l2d p1.toInt64) (FP.l2d p2.toInt64) (FP.l2d p3.toInt64) (FP.l2d p4.toInt64)))]) (lenOf pd_14 rfl) rfl (by show 2 * 0 + _ ≤ _; exact Nat.le_of_eq rfl) (hb hby at_205) (fun _ _ => ⟨rfl, eq74, (by decide : 7 + 0 ≤ _), (by decide : 13 + 0 ≤ _)⟩)
  dsimp only [Pt.U, Pt.locs, Pt.cells, Pt.slots] at X75 l75 y75 z75 st75 hQ75
  rw [l75, y75, z75] at X75
  obtain ⟨rfl, Nq75, eq75⟩ := hQ75
  refine Goes.pre st75 ?_
  have N75 := Fr.app N74 Nq75
  show Goes p e below s _ _ _ (T75.setTop (mkF m 208 #[.val (.int p1), .val (.int p2), .val (.int p3), .val (.int p4), .val (.int p5), .val (.int p6), .val (.ref b1), .val (.int ((p5 &&& (2147483647 : Int32)) % (5 : Int32))), .val (.int ((p6 &&& (2147483647 : Int32)) % (5 : Int32))), .val (.int (own_min ((p5 &&& (2147483647 : Int32)) % (5 : Int32)) ((p6 &&& (2147483647 : Int32)) % (5 : Int32)))), .val (.int (own_max ((p5 &&& (2147483647 : Int32)) % (5 : Int32)) ((p6 &&& (2147483647 : Int32)) % (5 : Int32)))), .val (.ref b8), .val (.double (own_e (own_min ((p5 &&& (2147483647 : Int32)) % (5 : Int32)) ((p6 &&& (2147483647 : Int32)) % (5 : Int32))) (own_max ((p5 &&& (2147483647 : Int32)) % (5 : Int32)) ((p6 &&& (2147483647 : Int32)) % (5 : Int32))) (0 : Int32) (FP.l2d p1.toInt64) (FP.l2d p2.toInt64) (FP.l2d p3.toInt64) (FP.l2d p4.toInt64))), .second, .val (.double (own_e (own_min ((p5 &&& (2147483647 : Int32)) % (5 : Int32)) ((p6 &&& (2147483647 : Int32)) % (5 : Int32))) (own_max ((p5 &&& (2147483647 : Int32)) % (5 : Int32)) ((p6 &&& (2147483647 : Int32)) % (5 : Int32))) (1 : Int32) (FP.l2d p1.toInt64) (FP.l2d p2.toInt64) (FP.l2d p3.toInt64) (FP.l2d p4.toInt64))), .second, .val (.double (own_e (own_min ((p5 &&& (2147483647 : Int32)) % (5 : Int32)) ((p6 &&& (2147483647 : Int32)) % (5 : Int32))) (own_max ((p5 &&& (2147483647 : Int32)) % (5 : Int32)) ((p6 &&& (2147483647 : Int32)) % (5 : Int32))) (2 : Int32) (FP.l2d p1.toInt64) (FP.l2d p2.toInt64) (FP.l2d p3.toInt64) (FP.l2d p4.toInt64))), .second, .val (.double (own_e (own_min ((p5 &&& (2147483647 : Int32)) % (5 : Int32)) ((p6 &&& (2147483647 : Int32)) % (5 : Int32))) (own_max ((p5 &&& (2147483647 : Int32)) % (5 : Int32)) ((p6 &&& (2147483647 : Int32)) % (5 : Int32))) (3 : Int32) (FP.l2d p1.toInt64) (FP.l2d p2.toInt64) (FP.l2d p3.toInt64) (FP.l2d p4.toInt64))), .second] [(.double (own_e (own_min ((p5 &&& (2147483647 : Int32)) % (5 : Int32)) ((p6 &&& (2147483647 : Int32)) % (5 : Int32))) (own_max ((p5 &&& (2147483647 : Int32)) % (5 : Int32)) ((p6 &&& (2147483647 : Int32)) % (5 : Int32))) (2 : Int32) (FP.l2d p1.toInt64) (FP.l2d p2.toInt64) (FP.l2d p3.toInt64) (FP.l2d p4.toInt64))), (.double (own_e (own_min ((p5 &&& (2147483647 : Int32)) % (5 : Int32)) ((p6 &&& (2147483647 : Int32)) % (5 : Int32))) (own_max ((p5 &&& (2147483647 : Int32)) % (5 : Int32)) ((p6 &&& (2147483647 : Int32)) % (5 : Int32))) (2 : Int32) (FP.l2d p1.toInt64) (FP.l2d p2.toInt64) (FP.l2d p3.toInt64) (FP.l2d p4.toInt64)))]))
  refine Goes.pre (fun t kt => XS.dcmpS X75.here hx rfl (hb hby at_208) rfl (v := (0 : Int32)) (dcmpV_self own_nn _) kt) ?_
  show Goes p e below s _ _ _ (T75.setTop (mkF m 209 #[.val (.int p1), .val (.int p2), .val (.int p3), .val (.int p4), .val (.int p5), .val (.int p6), .val (.ref b1), .val (.int ((p5 &&& (2147483647 : Int32)) % (5 : Int32))), .val (.int ((p6 &&& (2147483647 : Int32)) % (5 : Int32))), .val (.int (own_min ((p5 &&& (2147483647 : Int32)) % (5 : Int32)) ((p6 &&& (2147483647 : Int32)) % (5 : Int32)))), .val (.int (own_max ((p5 &&& (2147483647 : Int32)) % (5 : Int32)) ((p6 &&& (2147483647 : Int32)) % (5 : Int32)))), .val (.ref b8), .val (.double (own_e (own_min ((p5 &&& (2147483647 : Int32)) % (5 : Int32)) ((p6 &&& (2147483647 : Int32)) % (5 : Int32))) (own_max ((p5 &&& (2147483647 : Int32)) % (5 : Int32)) ((p6 &&& (2147483647 : Int32)) % (5 : Int32))) (0 : Int32) (FP.l2d p1.toInt64) (FP.l2d p2.toInt64) (FP.l2d p3.toInt64) (FP.l2d p4.toInt64))), .second, .val (.double (own_e (own_min ((p5 &&& (2147483647 : Int32)) % (5 : Int32)) ((p6 &&& (2147483647 : Int32)) % (5 : Int32))) (own_max ((p5 &&& (2147483647 : Int32)) % (5 : Int32)) ((p6 &&& (2147483647 : Int32)) % (5 : Int32))) (1 : Int32) (FP.l2d p1.toInt64) (FP.l2d p2.toInt64) (FP.l2d p3.toInt64) (FP.l2d p4.toInt64))), .second, .val (.double (own_e (own_min ((p5 &&& (2147483647 : Int32)) % (5 : Int32)) ((p6 &&& (2147483647 : Int32)) % (5 : Int32))) (own_max ((p5 &&& (2147483647 : Int32)) % (5 : Int32)) ((p6 &&& (2147483647 : Int32)) % (5 : Int32))) (2 : Int32) (FP.l2d p1.toInt64) (FP.l2d p2.toInt64) (FP.l2d p3.toInt64) (FP.l2d p4.toInt64))), .second, .val (.double (own_e (own_min ((p5 &&& (2147483647 : Int32)) % (5 : Int32)) ((p6 &&& (2147483647 : Int32)) % (5 : Int32))) (own_max ((p5 &&& (2147483647 : Int32)) % (5 : Int32)) ((p6 &&& (2147483647 : Int32)) % (5 : Int32))) (3 : Int32) (FP.l2d p1.toInt64) (FP.l2d p2.toInt64) (FP.l2d p3.toInt64) (FP.l2d p4.toInt64))), .second] [(.int (0 : Int32))]))
  refine Goes.pre (fun t kt => XS.ifNo X75.here hx rfl (hb hby at_209) rfl (Jvm.Free.XT.i0_ne_f ((by decide))) kt) ?_
  show Goes p e below s _ _ _ (T75.setTop (mkF m 212 #[.val (.int p1), .val (.int p2), .val (.int p3), .val (.int p4), .val (.int p5), .val (.int p6), .val (.ref b1), .val (.int ((p5 &&& (2147483647 : Int32)) % (5 : Int32))), .val (.int ((p6 &&& (2147483647 : Int32)) % (5 : Int32))), .val (.int (own_min ((p5 &&& (2147483647 : Int32)) % (5 : Int32)) ((p6 &&& (2147483647 : Int32)) % (5 : Int32)))), .val (.int (own_max ((p5 &&& (2147483647 : Int32)) % (5 : Int32)) ((p6 &&& (2147483647 : Int32)) % (5 : Int32)))), .val (.ref b8), .val (.double (own_e (own_min ((p5 &&& (2147483647 : Int32)) % (5 : Int32)) ((p6 &&& (2147483647 : Int32)) % (5 : Int32))) (own_max ((p5 &&& (2147483647 : Int32)) % (5 : Int32)) ((p6 &&& (2147483647 : Int32)) % (5 : Int32))) (0 : Int32) (FP.l2d p1.toInt64) (FP.l2d p2.toInt64) (FP.l2d p3.toInt64) (FP.l2d p4.toInt64))), .second, .val (.double (own_e (own_min ((p5 &&& (2147483647 : Int32)) % (5 : Int32)) ((p6 &&& (2147483647 : Int32)) % (5 : Int32))) (own_max ((p5 &&& (2147483647 : Int32)) % (5 : Int32)) ((p6 &&& (2147483647 : Int32)) % (5 : Int32))) (1 : Int32) (FP.l2d p1.toInt64) (FP.l2d p2.toInt64) (FP.l2d p3.toInt64) (FP.l2d p4.toInt64))), .second, .val (.double (own_e (own_min ((p5 &&& (2147483647 : Int32)) % (5 : Int32)) ((p6 &&& (2147483647 : Int32)) % (5 : Int32))) (own_max ((p5 &&& (2147483647 : Int32)) % (5 : Int32)) ((p6 &&& (2147483647 : Int32)) % (5 : Int32))) (2 : Int32) (FP.l2d p1.toInt64) (FP.l2d p2.toInt64) (FP.l2d p3.toInt64) (FP.l2d p4.toInt64))), .second, .val (.double (own_e (own_min ((p5 &&& (2147483647 : Int32)) % (5 : Int32)) ((p6 &&& (2147483647 : Int32)) % (5 : Int32))) (own_max ((p5 &&& (2147483647 : Int32)) % (5 : Int32)) ((p6 &&& (2147483647 : Int32)) % (5 : Int32))) (3 : Int32) (FP.l2d p1.toInt64) (FP.l2d p2.toInt64) (FP.l2d p3.toInt64) (FP.l2d p4.toInt64))), .second] []))
  refine Goes.pre (fun t kt => XS.dload X75.here hx rfl (hb hby at_212) rfl kt) ?_
  show Goes p e below s _ _ _ (T75.setTop (mkF m 214 #[.val (.int p1), .val (.int p2), .val (.int p3), .val (.int p4), .val (.int p5), .val (.int p6), .val (.ref b1), .val (.int ((p5 &&& (2147483647 : Int32)) % (5 : Int32))), .val (.int ((p6 &&& (2147483647 : Int32)) % (5 : Int32))), .val (.int (own_min ((p5 &&& (2147483647 : Int32)) % (5 : Int32)) ((p6 &&& (2147483647 : Int32)) % (5 : Int32)))), .val (.int (own_max ((p5 &&& (2147483647 : Int32)) % (5 : Int32)) ((p6 &&& (2147483647 : Int32)) % (5 : Int32)))), .val (.ref b8), .val (.double (own_e (own_min ((p5 &&& (2147483647 : Int32)) % (5 : Int32)) ((p6 &&& (2147483647 : Int32)) % (5 : Int32))) (own_max ((p5 &&& (2147483647 : Int32)) % (5 : Int32)) ((p6 &&& (2147483647 : Int32)) % (5 : Int32))) (0 : Int32) (FP.l2d p1.toInt64) (FP.l2d p2.toInt64) (FP.l2d p3.toInt64) (FP.l2d p4.toInt64))), .second, .val (.double (own_e (own_min ((p5 &&& (2147483647 : Int32)) % (5 : Int32)) ((p6 &&& (2147483647 : Int32)) % (5 : Int32))) (own_max ((p5 &&& (2147483647 : Int32)) % (5 : Int32)) ((p6 &&& (2147483647 : Int32)) % (5 : Int32))) (1 : Int32) (FP.l2d p1.toInt64) (FP.l2d p2.toInt64) (FP.l2d p3.toInt64) (FP.l2d p4.toInt64))), .second, .val (.double (own_e (own_min ((p5 &&& (2147483647 : Int32)) % (5 : Int32)) ((p6 &&& (2147483647 : Int32)) % (5 : Int32))) (own_max ((p5 &&& (2147483647 : Int32)) % (5 : Int32)) ((p6 &&& (2147483647 : Int32)) % (5 : Int32))) (2 : Int32) (FP.l2d p1.toInt64) (FP.l2d p2.toInt64) (FP.l2d p3.toInt64) (FP.l2d p4.toInt64))), .second, .val (.double (own_e (own_min ((p5 &&& (2147483647 : Int32)) % (5 : Int32)) ((p6 &&& (2147483647 : Int32)) % (5 : Int32))) (own_max ((p5 &&& (2147483647 : Int32)) % (5 : Int32)) ((p6 &&& (2147483647 : Int32)) % (5 : Int32))) (3 : Int32) (FP.l2d p1.toInt64) (FP.l2d p2.toInt64) (FP.l2d p3.toInt64) (FP.l2d p4.toInt64))), .second] [(.double (own_e (own_min ((p5 &&& (2147483647 : Int32)) % (5 : Int32)) ((p6 &&& (2147483647 : Int32)) % (5 : Int32))) (own_max ((p5 &&& (2147483647 : Int32)) % (5 : Int32)) ((p6 &&& (2147483647 : Int32)) % (5 : Int32))) (3 : Int32) (FP.l2d p1.toInt64) (FP.l2d p2.toInt64) (FP.l2d p3.toInt64) (FP.l2d p4.toInt64)))]))
  refine Goes.pre (fun t kt => XS.aload X75.here hx rfl (hb hby at_214) rfl rfl kt) ?_
  show Goes p e below s _ _ _ (T75.setTop (mkF m 216 #[.val (.int p1), .val (.int p2), .val (.int p3), .val (.int p4), .val (.int p5), .val (.int p6), .val (.ref b1), .val (.int ((p5 &&& (2147483647 : Int32)) % (5 : Int32))), .val (.int ((p6 &&& (2147483647 : Int32)) % (5 : Int32))), .val (.int (own_min ((p5 &&& (2147483647 : Int32)) % (5 : Int32)) ((p6 &&& (2147483647 : Int32)) % (5 : Int32)))), .val (.int (own_max ((p5 &&& (2147483647 : Int32)) % (5 : Int32)) ((p6 &&& (2147483647 : Int32)) % (5 : Int32)))), .val (.ref b8), .val (.double (own_e (own_min ((p5 &&& (2147483647 : Int32)) % (5 : Int32)) ((p6 &&& (2147483647 : Int32)) % (5 : Int32))) (own_max ((p5 &&& (2147483647 : Int32)) % (5 : Int32)) ((p6 &&& (2147483647 : Int32)) % (5 : Int32))) (0 : Int32) (FP.l2d p1.toInt64) (FP.l2d p2.toInt64) (FP.l2d p3.toInt64) (FP.l2d p4.toInt64))), .second, .val (.double (own_e (own_min ((p5 &&& (2147483647 : Int32)) % (5 : Int32)) ((p6 &&& (2147483647 : Int32)) % (5 : Int32))) (own_max ((p5 &&& (2147483647 : Int32)) % (5 : Int32)) ((p6 &&& (2147483647 : Int32)) % (5 : Int32))) (1 : Int32) (FP.l2d p1.toInt64) (FP.l2d p2.toInt64) (FP.l2d p3.toInt64) (FP.l2d p4.toInt64))), .second, .val (.double (own_e (own_min ((p5 &&& (2147483647 : Int32)) % (5 : Int32)) ((p6 &&& (2147483647 : Int32)) % (5 : Int32))) (own_max ((p5 &&& (2147483647 : Int32)) % (5 : Int32)) ((p6 &&& (2147483647 : Int32)) % (5 : Int32))) (2 : Int32) (FP.l2d p1.toInt64) (FP.l2d p2.toInt64) (FP.l2d p3.toInt64) (FP.l2d p4.toInt64))), .second, .val (.double (own_e (own_min ((p5 &&& (2147483647 : Int32)) % (5 : Int32)) ((p6 &&& (2147483647 : Int32)) % (5 : Int32))) (own_max ((p5 &&& (2147483647 : Int32)) % (5 : Int32)) ((p6 &&& (2147483647 : Int32)) % (5 : Int32))) (3 : Int32) (FP.l2d p1.toInt64) (FP.l2d p2.toInt64) (FP.l2d p3.toInt64) (FP.l2d p4.toInt64))), .second] [(.ref b1), (.double (own_e (own_min ((p5 &&& (2147483647 : Int32)) % (5 : Int32)) ((p6 &&& (2147483647 : Int32)) % (5 : Int32))) (own_max ((p5 &&& (2147483647 : Int32)) % (5 : Int32)) ((p6 &&& (2147483647 : Int32)) % (5 : Int32))) (3 : Int32) (FP.l2d p1.toInt64) (FP.l2d p2.toInt64) (FP.l2d p3.toInt64) (FP.l2d p4.toInt64)))]))
  refine Goes.pre (fun t kt => XS.iload X75.here hx rfl (hb hby at_216) rfl kt) ?_
  show Goes p e below s _ _ _ (T75.setTop (mkF m 218 #[.val (.int p1), .val (.int p2), .val (.int p3), .val (.int p4), .val (.int p5), .val (.int p6), .val (.ref b1), .val (.int ((p5 &&& (2147483647 : Int32)) % (5 : Int32))), .val (.int ((p6 &&& (2147483647 : Int32)) % (5 : Int32))), .val (.int (own_min ((p5 &&& (2147483647 : Int32)) % (5 : Int32)) ((p6 &&& (2147483647 : Int32)) % (5 : Int32)))), .val (.int (own_max ((p5 &&& (2147483647 : Int32)) % (5 : Int32)) ((p6 &&& (2147483647 : Int32)) % (5 : Int32)))), .val (.ref b8), .val (.double (own_e (own_min ((p5 &&& (2147483647 : Int32)) % (5 : Int32)) ((p6 &&& (2147483647 : Int32)) % (5 : Int32))) (own_max ((p5 &&& (2147483647 : Int32)) % (5 : Int32)) ((p6 &&& (2147483647 : Int32)) % (5 : Int32))) (0 : Int32) (FP.l2d p1.toInt64) (FP.l2d p2.toInt64) (FP.l2d p3.toInt64) (FP.l2d p4.toInt64))), .second, .val (.double (own_e (own_min ((p5 &&& (2147483647 : Int32)) % (5 : Int32)) ((p6 &&& (2147483647 : Int32)) % (5 : Int32))) (own_max ((p5 &&& (2147483647 : Int32)) % (5 : Int32)) ((p6 &&& (2147483647 : Int32)) % (5 : Int32))) (1 : Int32) (FP.l2d p1.toInt64) (FP.l2d p2.toInt64) (FP.l2d p3.toInt64) (FP.l2d p4.toInt64))), .second, .val (.double (own_e (own_min ((p5 &&& (2147483647 : Int32)) % (5 : Int32)) ((p6 &&& (2147483647 : Int32)) % (5 : Int32))) (own_max ((p5 &&& (2147483647 : Int32)) % (5 : Int32)) ((p6 &&& (2147483647 : Int32)) % (5 : Int32))) (2 : Int32) (FP.l2d p1.toInt64) (FP.l2d p2.toInt64) (FP.l2d p3.toInt64) (FP.l2d p4.toInt64))), .second, .val (.double (own_e (own_min ((p5 &&& (2147483647 : Int32)) % (5 : Int32)) ((p6 &&& (2147483647 : Int32)) % (5 : Int32))) (own_max ((p5 &&& (2147483647 : Int32)) % (5 : Int32)) ((p6 &&& (2147483647 : Int32)) % (5 : Int32))) (3 : Int32) (FP.l2d p1.toInt64) (FP.l2d p2.toInt64) (FP.l2d p3.toInt64) (FP.l2d p4.toInt64))), .second] [(.int (own_min ((p5 &&& (2147483647 : Int32)) % (5 : Int32)) ((p6 &&& (2147483647 : Int32)) % (5 : Int32)))), (.ref b1), (.double (own_e (own_min ((p5 &&& (2147483647 : Int32)) % (5 : Int32)) ((p6 &&& (2147483647 : Int32)) % (5 : Int32))) (own_max ((p5 &&& (2147483647 : Int32)) % (5 : Int32)) ((p6 &&& (2147483647 : Int32)) % (5 : Int32))) (3 : Int32) (FP.l2d p1.toInt64) (FP.l2d p2.toInt64) (FP.l2d p3.toInt64) (FP.l2d p4.toInt64)))]))
  refine Goes.pre (fun t kt => XS.iload X75.here hx rfl (hb hby at_218) rfl kt) ?_
  show Goes p e below s _ _ _ (T75.setTop (mkF m 220 #[.val (.int p1), .val (.int p2), .val (.int p3), .val (.int p4), .val (.int p5), .val (.int p6), .val (.ref b1), .val (.int ((p5 &&& (2147483647 : Int32)) % (5 : Int32))), .val (.int ((p6 &&& (2147483647 : Int32)) % (5 : Int32))), .val (.int (own_min ((p5 &&& (2147483647 : Int32)) % (5 : Int32)) ((p6 &&& (2147483647 : Int32)) % (5 : Int32)))), .val (.int (own_max ((p5 &&& (2147483647 : Int32)) % (5 : Int32)) ((p6 &&& (2147483647 : Int32)) % (5 : Int32)))), .val (.ref b8), .val (.double (own_e (own_min ((p5 &&& (2147483647 : Int32)) % (5 : Int32)) ((p6 &&& (2147483647 : Int32)) % (5 : Int32))) (own_max ((p5 &&& (2147483647 : Int32)) % (5 : Int32)) ((p6 &&& (2147483647 : Int32)) % (5 : Int32))) (0 : Int32) (FP.l2d p1.toInt64) (FP.l2d p2.toInt64) (FP.l2d p3.toInt64) (FP.l2d p4.toInt64))), .second, .val (.double (own_e (own_min ((p5 &&& (2147483647 : Int32)) % (5 : Int32)) ((p6 &&& (2147483647 : Int32)) % (5 : Int32))) (own_max ((p5 &&& (2147483647 : Int32)) % (5 : Int32)) ((p6 &&& (2147483647 : Int32)) % (5 : Int32))) (1 : Int32) (FP.l2d p1.toInt64) (FP.l2d p2.toInt64) (FP.l2d p3.toInt64) (FP.l2d p4.toInt64))), .second, .val (.double (own_e (own_min ((p5 &&& (2147483647 : Int32)) % (5 : Int32)) ((p6 &&& (2147483647 : Int32)) % (5 : Int32))) (own_max ((p5 &&& (2147483647 : Int32)) % (5 : Int32)) ((p6 &&& (2147483647 : Int32)) % (5 : Int32))) (2 : Int32) (FP.l2d p1.toInt64) (FP.l2d p2.toInt64) (FP.l2d p3.toInt64) (FP.l2d p4.toInt64))), .second, .val (.double (own_e (own_min ((p5 &&& (2147483647 : Int32)) % (5 : Int32)) ((p6 &&& (2147483647 : Int32)) % (5 : Int32))) (own_max ((p5 &&& (2147483647 : Int32)) % (5 : Int32)) ((p6 &&& (2147483647 : Int32)) % (5 : Int32))) (3 : Int32) (FP.l2d p1.toInt64) (FP.l2d p2.toInt64) (FP.l2d p3.toInt64) (FP.l2d p4.toInt64))), .second] [(.int (own_max ((p5 &&& (2147483647 : Int32)) % (5 : Int32)) ((p6 &&& (2147483647 : Int32)) % (5 : Int32)))), (.int (own_min ((p5 &&& (2147483647 : Int32)) % (5 : Int32)) ((p6 &&& (2147483647 : Int32)) % (5 : Int32)))), (.ref b1), (.double (own_e (own_min ((p5 &&& (2147483647 : Int32)) % (5 : Int32)) ((p6 &&& (2147483647 : Int32)) % (5 : Int32))) (own_max ((p5 &&& (2147483647 : Int32)) % (5 : Int32)) ((p6 &&& (2147483647 : Int32)) % (5 : Int32))) (3 : Int32) (FP.l2d p1.toInt64) (FP.l2d p2.toInt64) (FP.l2d p3.toInt64) (FP.l2d p4.toInt64)))]))
  refine Goes.pre (fun t kt => XS.iconst X75.here hx rfl (hb hby at_220) kt) ?_
  show Goes p e below s _ _ _ (T75.setTop (mkF m 221 #[.val (.int p1), .val (.int p2), .val (.int p3), .val (.int p4), .val (.int p5), .val (.int p6), .val (.ref b1), .val (.int ((p5 &&& (2147483647 : Int32)) % (5 : Int32))), .val (.int ((p6 &&& (2147483647 : Int32)) % (5 : Int32))), .val (.int (own_min ((p5 &&& (2147483647 : Int32)) % (5 : Int32)) ((p6 &&& (2147483647 : Int32)) % (5 : Int32)))), .val (.int (own_max ((p5 &&& (2147483647 : Int32)) % (5 : Int32)) ((p6 &&& (2147483647 : Int32)) % (5 : Int32)))), .val (.ref b8), .val (.double (own_e (own_min ((p5 &&& (2147483647 : Int32)) % (5 : Int32)) ((p6 &&& (2147483647 : Int32)) % (5 : Int32))) (own_max ((p5 &&& (2147483647 : Int32)) % (5 : Int32)) ((p6 &&& (2147483647 : Int32)) % (5 : Int32))) (0 : Int32) (FP.l2d p1.toInt64) (FP.l2d p2.toInt64) (FP.l2d p3.toInt64) (FP.l2d p4.toInt64))), .second, .val (.double (own_e (own_min ((p5 &&& (2147483647 : Int32)) % (5 : Int32)) ((p6 &&& (2147483647 : Int32)) % (5 : Int32))) (own_max ((p5 &&& (2147483647 : Int32)) % (5 : Int32)) ((p6 &&& (2147483647 : Int32)) % (5 : Int32))) (1 : Int32) (FP.l2d p1.toInt64) (FP.l2d p2.toInt64) (FP.l2d p3.toInt64) (FP.l2d p4.toInt64))), .second, .val (.double (own_e (own_min ((p5 &&& (2147483647 : Int32)) % (5 : Int32)) ((p6 &&& (2147483647 : Int32)) % (5 : Int32))) (own_max ((p5 &&& (2147483647 : Int32)) % (5 : Int32)) ((p6 &&& (2147483647 : Int32)) % (5 : Int32))) (2 : Int32) (FP.l2d p1.toInt64) (FP.l2d p2.toInt64) (FP.l2d p3.toInt64) (FP.l2d p4.toInt64))), .second, .val (.double (own_e (own_min ((p5 &&& (2147483647 : Int32)) % (5 : Int32)) ((p6 &&& (2147483647 : Int32)) % (5 : Int32))) (own_max ((p5 &&& (2147483647 : Int32)) % (5 : Int32)) ((p6 &&& (2147483647 : Int32)) % (5 : Int32))) (3 : Int32) (FP.l2d p1.toInt64) (FP.l2d p2.toInt64) (FP.l2d p3.toInt64) (FP.l2d p4.toInt64))), .second] [(.int (3 : Int32)), (.int (own_max ((p5 &&& (2147483647 : Int32)) % (5 : Int32)) ((p6 &&& (2147483647 : Int32)) % (5 : Int32)))), (.int (own_min ((p5 &&& (2147483647 : Int32)) % (5 : Int32)) ((p6 &&& (2147483647 : Int32)) % (5 : Int32)))), (.ref b1), (.double (own_e (own_min ((p5 &&& (2147483647 : Int32)) % (5 : Int32)) ((p6 &&& (2147483647 : Int32)) % (5 : Int32))) (own_max ((p5 &&& (2147483647 : Int32)) % (5 : Int32)) ((p6 &&& (2147483647 : Int32)) % (5 : Int32))) (3 : Int32) (FP.l2d p1.toInt64) (FP.l2d p2.toInt64) (FP.l2d p3.toInt64) (FP.l2d p4.toInt64)))]))
  obtain ⟨_, _, ⟨T76, L76, k76, n76⟩, -, X76, ⟨Lc76, hQ76, l76, y76, z76⟩, st76⟩ := Jvm.LawKit.callS X75 hx (y := (⟨"com/example/quantail/quantail/NumberArrayReversePinLaw", "expected", "([DIII)D"⟩ : MethodName)) hown (mvT hZ (hw _ (List.mem_of_getElem? (i := 64) rfl))) (mvT hZ (hw _ (List.mem_of_getElem? (i := 65) rfl))) (mvT hZ (hw _ (List.mem_of_getElem? (i := 66) rfl))) (mvT hZ (hw _ (List.mem_of_getElem? (i := 67) rfl))) (by decide) (backOf (W := 2) (rm13_3 l Z a0 hw [] b1 (own_min ((p5 &&& (2147483647 : Int32)) % (5 : Int32)) ((p6 &&& (2147483647 : Int32)) % (5 : Int32))) (own_max ((p5 &&& (2147483647 : Int32)) % (5 : Int32)) ((p6 &&& (2147483647 : Int32)) % (5 : Int32))) k1 (FP.l2d p1.toInt64) (FP.l2d p2.toInt64) (FP.l2d p3.toInt64) (FP.l2d p4.toInt64) h64 n0 Z64 fc72 (own_okLaw p5 p6)) hZ (hw _ (List.mem_of_getElem? (i := 67) rfl)) (hw _ (List.mem_of_getElem? (i := 66) rfl)) (by decide) (by decide)) (g := (mkF m 221 #[.val (.int p1), .val (.int p2), .val (.int p3), .val (.int p4), .val (.int p5), .val (.int p6), .val (.ref b1), .val (.int ((p5 &&& (2147483647 : Int32)) % (5 : Int32))), .val (.int ((p6 &&& (2147483647 : Int32)) % (5 : Int32))), .val (.int (own_min ((p5 &&& (2147483647 : Int32)) % (5 : Int32)) ((p6 &&& (2147483647 : Int32)) % (5 : Int32)))), .val (.int (own_max ((p5 &&& (2147483647 : Int32)) % (5 : Int32)) ((p6 &&& (2147483647 : Int32)) % (5 : Int32)))), .val (.ref b8), .val (.double (own_e (own_min ((p5 &&& (2147483647 : Int32)) % (5 : Int32)) ((p6 &&& (2147483647 : Int32)) % (5 : Int32))) (own_max ((p5 &&& (2147483647 : Int32)) % (5 : Int32)) ((p6 &&& (2147483647 : Int32)) % (5 : Int32))) (0 : Int32) (FP.l2d p1.toInt64) (FP.l2d p2.toInt64) (FP.l2d p3.toInt64) (FP.l2d p4.toInt64))), .second, .val (.double (own_e (own_min ((p5 &&& (2147483647 : Int32)) % (5 : Int32)) ((p6 &&& (2147483647 : Int32)) % (5 : Int32))) (own_max ((p5 &&& (2147483647 : Int32)) % (5 : Int32)) ((p6 &&& (2147483647 : Int32)) % (5 : Int32))) (1 : Int32) (FP.l2d p1.toInt64) (FP.l2d p2.toInt64) (FP.l2d p3.toInt64) (FP.l2d p4.toInt64))), .second, .val (.double (own_e (own_min ((p5 &&& (2147483647 : Int32)) % (5 : Int32)) ((p6 &&& (2147483647 : Int32)) % (5 : Int32))) (own_max ((p5 &&& (2147483647 : Int32)) % (5 : Int32)) ((p6 &&& (2147483647 : Int32)) % (5 : Int32))) (2 : Int32) (FP.l2d p1.toInt64) (FP.l2d p2.toInt64) (FP.l2d p3.toInt64) (FP.l2d p4.toInt64))), .second, .val (.double (own_e (own_min ((p5 &&& (2147483647 : Int32)) % (5 : Int32)) ((p6 &&& (2147483647 : Int32)) % (5 : Int32))) (own_max ((p5 &&& (2147483647 : Int32)) % (5 : Int32)) ((p6 &&& (2147483647 : Int32)) % (5 : Int32))) (3 : Int32) (FP.l2d p1.toInt64) (FP.l2d p2.toInt64) (FP.l2d p3.toInt64) (FP.l2d p4.toInt64))), .second] [(.int (3 : Int32)), (.int (own_max ((p5 &&& (2147483647 : Int32)) % (5 : Int32)) ((p6 &&& (2147483647 : Int32)) % (5 : Int32)))), (.int (own_min ((p5 &&& (2147483647 : Int32)) % (5 : Int32)) ((p6 &&& (2147483647 : Int32)) % (5 : Int32)))), (.ref b1), (.double (own_e (own_min ((p5 &&& (2147483647 : Int32)) % (5 : Int32)) ((p6 &&& (2147483647 : Int32)) % (5 : Int32))) (own_max ((p5 &&& (2147483647 : Int32)) % (5 : Int32)) ((p6 &&& (2147483647 : Int32)) % (5 : Int32))) (3 : Int32) (FP.l2d p1.toInt64) (FP.l2d p2.toInt64) (FP.l2d p3.toInt64) (FP.l2d p4.toInt64)))])) rfl (by rw [hml]; rfl) (argsL := [(.ref b1), (.int (own_min ((p5 &&& (2147483647 : Int32)) % (5 : Int32)) ((p6 &&& (2147483647 : Int32)) % (5 : Int32)))), (.int (own_max ((p5 &&& (2147483647 : Int32)) % (5 : Int32)) ((p6 &&& (2147483647 : Int32)) % (5 : Int32)))), (.int (3 : Int32))]) (rest := [(.double (own_e (own_min ((p5 &&& (2147483647 : Int32)) % (5 : Int32)) ((p6 &&& (2147483647 : Int32)) % (5 : Int32))) (own_max ((p5 &&& (2147483647 : Int32)) % (5 : Int32)) ((p6 &&& (2147483647 : Int32)) % (5 : Int32))) (3 : Int32) (FP.l2d p1.toInt64) (FP.l2d p2.toInt64) (FP.l2d p3.toInt64) (FP.l2d p4.toInt64)))]) (lenOf pd_14 rfl) rfl (by show 2 * 0 + _ ≤ _; exact Nat.le_of_eq rfl) (hb hby at_221) (fun _ _ => ⟨rfl, eq75, (by decide : 7 + 0 ≤ _), (by decide : 13 + 0 ≤ _)⟩)
  dsimp only [Pt.U, Pt.locs, Pt.cells, Pt.slots] at X76 l76 y76 z76 st76 hQ76
  rw [l76, y76, z76] at X76
  obtain ⟨rfl, Nq76, eq76⟩ := hQ76
  refine Goes.pre st76 ?_
  have N76 := Fr.app N75 Nq76
  show Goes p e below s _ _ _ (T76.setTop (mkF m 224 #[.val (.int p1), .val (.int p2), .val (.int p3), .val (.int p4), .val (.int p5), .val (.int p6), .val (.ref b1), .val (.int ((p5 &&& (2147483647 : Int32)) % (5 : Int32))), .val (.int ((p6 &&& (2147483647 : Int32)) % (5 : Int32))), .val (.int (own_min ((p5 &&& (2147483647 : Int32)) % (5 : Int32)) ((p6 &&& (2147483647 : Int32)) % (5 : Int32)))), .val (.int (own_max ((p5 &&& (2147483647 : Int32)) % (5 : Int32)) ((p6 &&& (2147483647 : Int32)) % (5 : Int32)))), .val (.ref b8), .val (.double (own_e (own_min ((p5 &&& (2147483647 : Int32)) % (5 : Int32)) ((p6 &&& (2147483647 : Int32)) % (5 : Int32))) (own_max ((p5 &&& (2147483647 : Int32)) % (5 : Int32)) ((p6 &&& (2147483647 : Int32)) % (5 : Int32))) (0 : Int32) (FP.l2d p1.toInt64) (FP.l2d p2.toInt64) (FP.l2d p3.toInt64) (FP.l2d p4.toInt64))), .second, .val (.double (own_e (own_min ((p5 &&& (2147483647 : Int32)) % (5 : Int32)) ((p6 &&& (2147483647 : Int32)) % (5 : Int32))) (own_max ((p5 &&& (2147483647 : Int32)) % (5 : Int32)) ((p6 &&& (2147483647 : Int32)) % (5 : Int32))) (1 : Int32) (FP.l2d p1.toInt64) (FP.l2d p2.toInt64) (FP.l2d p3.toInt64) (FP.l2d p4.toInt64))), .second, .val (.double (own_e (own_min ((p5 &&& (2147483647 : Int32)) % (5 : Int32)) ((p6 &&& (2147483647 : Int32)) % (5 : Int32))) (own_max ((p5 &&& (2147483647 : Int32)) % (5 : Int32)) ((p6 &&& (2147483647 : Int32)) % (5 : Int32))) (2 : Int32) (FP.l2d p1.toInt64) (FP.l2d p2.toInt64) (FP.l2d p3.toInt64) (FP.l2d p4.toInt64))), .second, .val (.double (own_e (own_min ((p5 &&& (2147483647 : Int32)) % (5 : Int32)) ((p6 &&& (2147483647 : Int32)) % (5 : Int32))) (own_max ((p5 &&& (2147483647 : Int32)) % (5 : Int32)) ((p6 &&& (2147483647 : Int32)) % (5 : Int32))) (3 : Int32) (FP.l2d p1.toInt64) (FP.l2d p2.toInt64) (FP.l2d p3.toInt64) (FP.l2d p4.toInt64))), .second] [(.double (own_e (own_min ((p5 &&& (2147483647 : Int32)) % (5 : Int32)) ((p6 &&& (2147483647 : Int32)) % (5 : Int32))) (own_max ((p5 &&& (2147483647 : Int32)) % (5 : Int32)) ((p6 &&& (2147483647 : Int32)) % (5 : Int32))) (3 : Int32) (FP.l2d p1.toInt64) (FP.l2d p2.toInt64) (FP.l2d p3.toInt64) (FP.l2d p4.toInt64))), (.double (own_e (own_min ((p5 &&& (2147483647 : Int32)) % (5 : Int32)) ((p6 &&& (2147483647 : Int32)) % (5 : Int32))) (own_max ((p5 &&& (2147483647 : Int32)) % (5 : Int32)) ((p6 &&& (2147483647 : Int32)) % (5 : Int32))) (3 : Int32) (FP.l2d p1.toInt64) (FP.l2d p2.toInt64) (FP.l2d p3.toInt64) (FP.l2d p4.toInt64)))]))
  refine Goes.pre (fun t kt => XS.dcmpS X76.here hx rfl (hb hby at_224) rfl (v := (0 : Int32)) (dcmpV_self own_nn _) kt) ?_
  show Goes p e below s _ _ _ (T76.setTop (mkF m 225 #[.val (.int p1), .val (.int p2), .val (.int p3), .val (.int p4), .val (.int p5), .val (.int p6), .val (.ref b1), .val (.int ((p5 &&& (2147483647 : Int32)) % (5 : Int32))), .val (.int ((p6 &&& (2147483647 : Int32)) % (5 : Int32))), .val (.int (own_min ((p5 &&& (2147483647 : Int32)) % (5 : Int32)) ((p6 &&& (2147483647 : Int32)) % (5 : Int32)))), .val (.int (own_max ((p5 &&& (2147483647 : Int32)) % (5 : Int32)) ((p6 &&& (2147483647 : Int32)) % (5 : Int32)))), .val (.ref b8), .val (.double (own_e (own_min ((p5 &&& (2147483647 : Int32)) % (5 : Int32)) ((p6 &&& (2147483647 : Int32)) % (5 : Int32))) (own_max ((p5 &&& (2147483647 : Int32)) % (5 : Int32)) ((p6 &&& (2147483647 : Int32)) % (5 : Int32))) (0 : Int32) (FP.l2d p1.toInt64) (FP.l2d p2.toInt64) (FP.l2d p3.toInt64) (FP.l2d p4.toInt64))), .second, .val (.double (own_e (own_min ((p5 &&& (2147483647 : Int32)) % (5 : Int32)) ((p6 &&& (2147483647 : Int32)) % (5 : Int32))) (own_max ((p5 &&& (2147483647 : Int32)) % (5 : Int32)) ((p6 &&& (2147483647 : Int32)) % (5 : Int32))) (1 : Int32) (FP.l2d p1.toInt64) (FP.l2d p2.toInt64) (FP.l2d p3.toInt64) (FP.l2d p4.toInt64))), .second, .val (.double (own_e (own_min ((p5 &&& (2147483647 : Int32)) % (5 : Int32)) ((p6 &&& (2147483647 : Int32)) % (5 : Int32))) (own_max ((p5 &&& (2147483647 : Int32)) % (5 : Int32)) ((p6 &&& (2147483647 : Int32)) % (5 : Int32))) (2 : Int32) (FP.l2d p1.toInt64) (FP.l2d p2.toInt64) (FP.l2d p3.toInt64) (FP.l2d p4.toInt64))), .second, .val (.double (own_e (own_min ((p5 &&& (2147483647 : Int32)) % (5 : Int32)) ((p6 &&& (2147483647 : Int32)) % (5 : Int32))) (own_max ((p5 &&& (2147483647 : Int32)) % (5 : Int32)) ((p6 &&& (2147483647 : Int32)) % (5 : Int32))) (3 : Int32) (FP.l2d p1.toInt64) (FP.l2d p2.toInt64) (FP.l2d p3.toInt64) (FP.l2d p4.toInt64))), .second] [(.int (0 : Int32))]))
  refine Goes.pre (fun t kt => XS.ifNo X76.here hx rfl (hb hby at_225) rfl (Jvm.Free.XT.i0_ne_f ((by decide))) kt) ?_
  show Goes p e below s _ _ _ (T76.setTop (mkF m 228 #[.val (.int p1), .val (.int p2), .val (.int p3), .val (.int p4), .val (.int p5), .val (.int p6), .val (.ref b1), .val (.int ((p5 &&& (2147483647 : Int32)) % (5 : Int32))), .val (.int ((p6 &&& (2147483647 : Int32)) % (5 : Int32))), .val (.int (own_min ((p5 &&& (2147483647 : Int32)) % (5 : Int32)) ((p6 &&& (2147483647 : Int32)) % (5 : Int32)))), .val (.int (own_max ((p5 &&& (2147483647 : Int32)) % (5 : Int32)) ((p6 &&& (2147483647 : Int32)) % (5 : Int32)))), .val (.ref b8), .val (.double (own_e (own_min ((p5 &&& (2147483647 : Int32)) % (5 : Int32)) ((p6 &&& (2147483647 : Int32)) % (5 : Int32))) (own_max ((p5 &&& (2147483647 : Int32)) % (5 : Int32)) ((p6 &&& (2147483647 : Int32)) % (5 : Int32))) (0 : Int32) (FP.l2d p1.toInt64) (FP.l2d p2.toInt64) (FP.l2d p3.toInt64) (FP.l2d p4.toInt64))), .second, .val (.double (own_e (own_min ((p5 &&& (2147483647 : Int32)) % (5 : Int32)) ((p6 &&& (2147483647 : Int32)) % (5 : Int32))) (own_max ((p5 &&& (2147483647 : Int32)) % (5 : Int32)) ((p6 &&& (2147483647 : Int32)) % (5 : Int32))) (1 : Int32) (FP.l2d p1.toInt64) (FP.l2d p2.toInt64) (FP.l2d p3.toInt64) (FP.l2d p4.toInt64))), .second, .val (.double (own_e (own_min ((p5 &&& (2147483647 : Int32)) % (5 : Int32)) ((p6 &&& (2147483647 : Int32)) % (5 : Int32))) (own_max ((p5 &&& (2147483647 : Int32)) % (5 : Int32)) ((p6 &&& (2147483647 : Int32)) % (5 : Int32))) (2 : Int32) (FP.l2d p1.toInt64) (FP.l2d p2.toInt64) (FP.l2d p3.toInt64) (FP.l2d p4.toInt64))), .second, .val (.double (own_e (own_min ((p5 &&& (2147483647 : Int32)) % (5 : Int32)) ((p6 &&& (2147483647 : Int32)) % (5 : Int32))) (own_max ((p5 &&& (2147483647 : Int32)) % (5 : Int32)) ((p6 &&& (2147483647 : Int32)) % (5 : Int32))) (3 : Int32) (FP.l2d p1.toInt64) (FP.l2d p2.toInt64) (FP.l2d p3.toInt64) (FP.l2d p4.toInt64))), .second] []))
  refine Goes.pre (fun t kt => XS.iconst X76.here hx rfl (hb hby at_228) kt) ?_
  show Goes p e below s _ _ _ (T76.setTop (mkF m 229 #[.val (.int p1), .val (.int p2), .val (.int p3), .val (.int p4), .val (.int p5), .val (.int p6), .val (.ref b1), .val (.int ((p5 &&& (2147483647 : Int32)) % (5 : Int32))), .val (.int ((p6 &&& (2147483647 : Int32)) % (5 : Int32))), .val (.int (own_min ((p5 &&& (2147483647 : Int32)) % (5 : Int32)) ((p6 &&& (2147483647 : Int32)) % (5 : Int32)))), .val (.int (own_max ((p5 &&& (2147483647 : Int32)) % (5 : Int32)) ((p6 &&& (2147483647 : Int32)) % (5 : Int32)))), .val (.ref b8), .val (.double (own_e (own_min ((p5 &&& (2147483647 : Int32)) % (5 : Int32)) ((p6 &&& (2147483647 : Int32)) % (5 : Int32))) (own_max ((p5 &&& (2147483647 : Int32)) % (5 : Int32)) ((p6 &&& (2147483647 : Int32)) % (5 : Int32))) (0 : Int32) (FP.l2d p1.toInt64) (FP.l2d p2.toInt64) (FP.l2d p3.toInt64) (FP.l2d p4.toInt64))), .second, .val (.double (own_e (own_min ((p5 &&& (2147483647 : Int32)) % (5 : Int32)) ((p6 &&& (2147483647 : Int32)) % (5 : Int32))) (own_max ((p5 &&& (2147483647 : Int32)) % (5 : Int32)) ((p6 &&& (2147483647 : Int32)) % (5 : Int32))) (1 : Int32) (FP.l2d p1.toInt64) (FP.l2d p2.toInt64) (FP.l2d p3.toInt64) (FP.l2d p4.toInt64))), .second, .val (.double (own_e (own_min ((p5 &&& (2147483647 : Int32)) % (5 : Int32)) ((p6 &&& (2147483647 : Int32)) % (5 : Int32))) (own_max ((p5 &&& (2147483647 : Int32)) % (5 : Int32)) ((p6 &&& (2147483647 : Int32)) % (5 : Int32))) (2 : Int32) (FP.l2d p1.toInt64) (FP.l2d p2.toInt64) (FP.l2d p3.toInt64) (FP.l2d p4.toInt64))), .second, .val (.double (own_e (own_min ((p5 &&& (2147483647 : Int32)) % (5 : Int32)) ((p6 &&& (2147483647 : Int32)) % (5 : Int32))) (own_max ((p5 &&& (2147483647 : Int32)) % (5 : Int32)) ((p6 &&& (2147483647 : Int32)) % (5 : Int32))) (3 : Int32) (FP.l2d p1.toInt64) (FP.l2d p2.toInt64) (FP.l2d p3.toInt64) (FP.l2d p4.toInt64))), .second] [(.int (1 : Int32))]))
  refine Goes.pre (fun t kt => XS.goto X76.here hx rfl (pc0 := 229) (pc' := 233) rfl (hb hby at_229) (by decide) (by decide) kt) ?_
  show Goes p e below s _ _ _ (T76.setTop (mkF m 233 #[.val (.int p1), .val (.int p2), .val (.int p3), .val (.int p4), .val (.int p5), .val (.int p6), .val (.ref b1), .val (.int ((p5 &&& (2147483647 : Int32)) % (5 : Int32))), .val (.int ((p6 &&& (2147483647 : Int32)) % (5 : Int32))), .val (.int (own_min ((p5 &&& (2147483647 : Int32)) % (5 : Int32)) ((p6 &&& (2147483647 : Int32)) % (5 : Int32)))), .val (.int (own_max ((p5 &&& (2147483647 : Int32)) % (5 : Int32)) ((p6 &&& (2147483647 : Int32)) % (5 : Int32)))), .val (.ref b8), .val (.double (own_e (own_min ((p5 &&& (2147483647 : Int32)) % (5 : Int32)) ((p6 &&& (2147483647 : Int32)) % (5 : Int32))) (own_max ((p5 &&& (2147483647 : Int32)) % (5 : Int32)) ((p6 &&& (2147483647 : Int32)) % (5 : Int32))) (0 : Int32) (FP.l2d p1.toInt64) (FP.l2d p2.toInt64) (FP.l2d p3.toInt64) (FP.l2d p4.toInt64))), .second, .val (.double (own_e (own_min ((p5 &&& (2147483647 : Int32)) % (5 : Int32)) ((p6 &&& (2147483647 : Int32)) % (5 : Int32))) (own_max ((p5 &&& (2147483647 : Int32)) % (5 : Int32)) ((p6 &&& (2147483647 : Int32)) % (5 : Int32))) (1 : Int32) (FP.l2d p1.toInt64) (FP.l2d p2.toInt64) (FP.l2d p3.toInt64) (FP.l2d p4.toInt64))), .second, .val (.double (own_e (own_min ((p5 &&& (2147483647 : Int32)) % (5 : Int32)) ((p6 &&& (2147483647 : Int32)) % (5 : Int32))) (own_max ((p5 &&& (2147483647 : Int32)) % (5 : Int32)) ((p6 &&& (2147483647 : Int32)) % (5 : Int32))) (2 : Int32) (FP.l2d p1.toInt64) (FP.l2d p2.toInt64) (FP.l2d p3.toInt64) (FP.l2d p4.toInt64))), .second, .val (.double (own_e (own_min ((p5 &&& (2147483647 : Int32)) % (5 : Int32)) ((p6 &&& (2147483647 : Int32)) % (5 : Int32))) (own_max ((p5 &&& (2147483647 : Int32)) % (5 : Int32)) ((p6 &&& (2147483647 : Int32)) % (5 : Int32))) (3 : Int32) (FP.l2d p1.toInt64) (FP.l2d p2.toInt64) (FP.l2d p3.toInt64) (FP.l2d p4.toInt64))), .second] [(.int (1 : Int32))]))
  refine Goes.ret X76 (some (.int (1 : Int32))) (fun h => by rw [Bd.returns] at h; cases h) (BodyLoose.notSynchronized Bd) (by decide) (by decide) (fun fs hr => retN X76 hx (t := .boolean) Bd.returns (by simp) (hb hby at_233) hr) ?_
  show Q_rm0 Z p1 p2 p3 p4 p5 p6 h0 n0 _ T76.heap _
  rw [eq76]
  exact ⟨rfl, N76⟩
set_option maxRecDepth 65536 in
set_option maxHeartbeats 40000000 in
theorem comes_1 {Post : Tables → Env → Array Value → State → Outcome → State → Prop} (hpost : ∀ tb e args s v u, (limb_1_1.after args s (.returned v) u = true ∧ limb_1_2.after args s (.returned v) u = true ∧ True) → FrameEnd s (.returned v) u (Jvm.fieldLocs frame_1_writes args s ++ Jvm.arrayLocs frame_1_arrays args s ++ Jvm.staticLocs frame_1_statics s) 24 128 → Post tb e args s (.returned v) u) :
    ArmFor flags0 classFile x code maxLocals ret World_1 tables_1 room_1 Calls_1 rest_1 Pre_1 Post := by
  intro l hfl _ _ p e ha hc hk s m args below hf hA hF happ hP
  obtain ⟨hcalls, hrest, hpre⟩ := hP
  obtain ⟨-, -, -, hnamed, -, -, -, hat⟩ := (Spec.applies_iff hf).mp happ
  obtain ⟨hg, hn⟩ := and_e (Cond.before_iff.mp (show (Jvm.Cond.and given_1 narrow_1).before args s = true from hpre))
  obtain ⟨gv1, gv2⟩ := and_e hg
  obtain ⟨gv3, gv4⟩ := and_e gv2
  obtain ⟨gv5, gv6⟩ := and_e gv4
  obtain ⟨gv7, gv8⟩ := and_e gv6
  obtain ⟨gv9, gv10⟩ := and_e gv8
  obtain ⟨gv11, gv12⟩ := and_e gv10
  obtain ⟨w0, w1, w2, w3, w4, w5, rfl⟩ : ∃ w0 w1 w2 w3 w4 w5 : Value, args = #[w0, w1, w2, w3, w4, w5] := by
    have hs : args.size = 6 := by simpa [Cond.value, given_1] using gv1
    obtain ⟨L⟩ := args
    match L, hs with
    | [w0, w1, w2, w3, w4, w5], _ => exact ⟨w0, w1, w2, w3, w4, w5, rfl⟩
  have hw := fun d (hd : d ∈ tables_1) => atoms_spec (ws := Jvm.Cond.code x code maxLocals ret :: tables_1) hat d (List.mem_cons_of_mem _ hd)
  have hfit : Fit s := fun {y c} hc i hi => by
    obtain ⟨ha, rfl⟩ := Array.getElem?_eq_some_iff.mp hc
    have q := List.all_eq_true.mp ((Array.all_eq_true_iff_forall_mem.mp hF) _ (Array.getElem_mem ha)) i (List.mem_range.mpr hi)
    simpa [Array.getElem?_eq_getElem hi] using q
  obtain ⟨i0, ei0⟩ := is_v gv3
  obtain rfl : w0 = (.int i0) := Option.some.inj ei0
  obtain ⟨i1, ei1⟩ := is_v gv5
  obtain rfl : w1 = (.int i1) := Option.some.inj ei1
  obtain ⟨i2, ei2⟩ := is_v gv7
  obtain rfl : w2 = (.int i2) := Option.some.inj ei2
  obtain ⟨i3, ei3⟩ := is_v gv9
  obtain rfl : w3 = (.int i3) := Option.some.inj ei3
  obtain ⟨i4, ei4⟩ := is_v gv11
  obtain rfl : w4 = (.int i4) := Option.some.inj ei4
  obtain ⟨i5, ei5⟩ := is_v gv12
  obtain rfl : w5 = (.int i5) := Option.some.inj ei5
  obtain ⟨n, o, h1, h2, h3, _, L, rfl, ⟨rfl, N⟩, hq⟩ := rm0 l s _ hw tables_1 i0 i1 i2 i3 i4 i5  s.heap s.heap.size (Nat.le_refl _)  p e ha hc hk s m _ below hf ((Spec.applies_iff_loose hf).mp happ).1 ⟨rfl, State.Warmed39.refl s, rfl⟩ trivial
  refine ⟨n, _, h1, h2, h3, hpost _ _ _ _ _ _ ⟨Cond.after_iff.mpr rfl, Cond.after_iff.mpr (eq_i res_at (Term.int_eval (1)) rfl), trivial⟩ ⟨hq.1, hq.2.1, (hq.2.2.sift fun y hy => Or.inr (N y hy)).mono (by decide) (by decide)⟩⟩
theorem main_1_1 : Claimed_1_1 := comes_1 fun _ _ _ _ _ _ h hF => ⟨h.1, hF⟩
theorem main_1_2 : Claimed_1_2 := comes_1 fun _ _ _ _ _ _ h hF => ⟨h.2.1, hF⟩
end Jvm.Pilot.@@N@@
namespace Jvm.Pilot.@@N@@
open Jvm Jvm.ClassFile Sem Op Lib Jvm.Free Jvm.Stand Jvm.Pilot.@@N@@.Jvm.D
/-! MADE BY PROGRAM (witnessworld.py) out of the Statement's table words and the real class files: 18 classes; the members and pool entries that the words name. The judged class is class 1, her method 1. -/
namespace start1
open Jvm.ClassFile
def u (s : String) : CpInfo := .utf8 (stringToUtf16 s)
/-- a pool by its gaps: so many unusable entries, then the entry; so many at the end -/
def gap : Nat → List CpInfo → List CpInfo
  | 0, r => r
  | n + 1, r => .unusable :: gap n r
def poolList (es : List (Nat × CpInfo)) (last : Nat) : List CpInfo := es.foldr (fun e r => gap e.1 (e.2 :: r)) (gap last [])
def pool (es : List (Nat × CpInfo)) (last : Nat) : Array CpInfo := ⟨poolList es last⟩
def fileOf (pool : Array CpInfo) (this : Nat) (attrs : Array Attribute := #[]) (ms : Array MethodInfo := #[]) (fl : Nat := 33) (sup : Nat := 0) (ifs : Array Nat := #[]) (fds : Array FieldInfo := #[]) : ClassFile where
  minorVersion := 0
  majorVersion := 65
  constantPool := pool
  accessFlags := fl
  thisClass := this
  superClass := sup
  interfaces := ifs
  fields := fds
  methods := ms
  attributes := attrs
def plain (name : String) (sup : Option ClassId) : Class where
  name := name
  kind := .ordinary
  loader := none
  accessFlags := 33
  super := sup
  interfaces := #[]
  cf := none
  fields := #[]
  methods := #[]
  instanceTypes := #[]
  staticTypes := #[]
  resolved := #[]
  callSites := []
  init := .initialized
  statics := none
  mirror := none

def pool0 : Array CpInfo := pool [(5, u "<init>"), (0, u "()V"), (1, .class_ 10), (1, u "java/lang/Object")] 113

def k0c0 : Code := { maxStack := 0, maxLocals := 1, code := object_method_1_code, exceptionTable := #[], attributes := #[] }
def k0m0 : Method := { name := "<init>", desc := "()V", sig := { parameters := [], returnType := none }, accessFlags := 1, code := some k0c0 }
/-- java/lang/Object -/
def k0 : Class := { plain "java/lang/Object" none with
  accessFlags := 33
  interfaces := #[]
  cf := some (fileOf pool0 8 #[] #[{ accessFlags := 1, nameIndex := 5, descriptorIndex := 6, attributes := #[] }] 33 0 #[] #[])
  fields := #[]
  methods := #[k0m0]
  instanceTypes := #[]
  staticTypes := #[]
  resolved := Array.replicate 124 none
  statics := none }

def pool1 : Array CpInfo := pool [(2, .class_ 4), (1, u "java/lang/Object"), (0, u "<init>"), (0, u "()V"), (0, .integer 2147483647), (0, .methodref 9 10), (0, .class_ 11), (0, .nameAndType 12 13), (0, u "java/lang/Math"), (0, u "min"), (0, u "(II)I"), (0, .methodref 9 15), (0, .nameAndType 16 13), (0, u "max"), (0, .class_ 18), (0, u "com/example/quantail/quantail/NumberArray"), (0, .methodref 17 20), (0, .nameAndType 5 21), (0, u "(I)V"), (0, .methodref 17 23), (0, .nameAndType 24 25), (0, u "setNumber"), (0, u "(ID)V"), (0, .methodref 17 27), (0, .nameAndType 28 29), (0, u "reverse"), (0, u "(II)V"), (0, .methodref 17 31), (0, .nameAndType 32 33), (0, u "get"), (0, u "(I)Ljava/lang/Double;"), (0, .methodref 35 36), (0, .class_ 37), (0, .nameAndType 38 39), (0, u "java/lang/Double"), (0, u "doubleValue"), (0, u "()D"), (0, .methodref 41 42), (0, .class_ 43), (0, .nameAndType 44 45), (0, u "com/example/quantail/quantail/NumberArrayReversePinLaw"), (0, u "expected"), (0, u "([DIII)D"), (2, u "law"), (0, u "(IIIIII)Z")] 5

def k1m0 : Method := { name := "<init>", desc := "()V", sig := { parameters := [], returnType := none }, accessFlags := 1, code := none }
def k1c1 : Code := { maxStack := 6, maxLocals := 20, code := code, exceptionTable := #[], attributes := #[] }
def k1m1 : Method := { name := "law", desc := "(IIIIII)Z", sig := { parameters := [.int, .int, .int, .int, .int, .int], returnType := some .boolean }, accessFlags := 9, code := some k1c1 }
def k1c2 : Code := { maxStack := 3, maxLocals := 4, code := method_3_code, exceptionTable := #[], attributes := #[] }
def k1m2 : Method := { name := "expected", desc := "([DIII)D", sig := { parameters := [(.array .double), .int, .int, .int], returnType := some .double }, accessFlags := 10, code := some k1c2 }
/-- com/example/quantail/quantail/NumberArrayReversePinLaw -/
def k1 : Class := { plain "com/example/quantail/quantail/NumberArrayReversePinLaw" (some 0) with
  accessFlags := 49
  interfaces := #[]
  cf := some (fileOf pool1 41 #[] #[{ accessFlags := 1, nameIndex := 5, descriptorIndex := 6, attributes := #[] }, { accessFlags := 9, nameIndex := 48, descriptorIndex := 49, attributes := #[] }, { accessFlags := 10, nameIndex := 44, descriptorIndex := 45, attributes := #[] }] 49 2 #[] #[])
  fields := #[]
  methods := #[k1m0, k1m1, k1m2]
  instanceTypes := #[]
  staticTypes := #[]
  resolved := Array.replicate 55 none
  statics := none }

def pool2 : Array CpInfo := pool [(1, .class_ 2), (0, u "java/lang/Math"), (1, .class_ 6), (1, u "java/lang/Object"), (0, u "<init>"), (0, u "()V"), (89, .class_ 100), (1, u "java/lang/Math$RandomNumberGeneratorHolder"), (71, u "negativeZeroFloatBits"), (0, u "J"), (2, u "negativeZeroDoubleBits"), (21, u "max"), (2, u "min"), (43, u "$assertionsDisabled"), (0, u "Z"), (88, u "(II)I"), (2, u "twoToTheDoubleScaleDown"), (0, u "D"), (4, u "twoToTheDoubleScaleUp"), (9, u "E"), (3, u "PI"), (2, u "TAU"), (2, u "DEGREES_TO_RADIANS"), (0, u "RADIANS_TO_DEGREES")] 94

def k2m0 : Method := { name := "<init>", desc := "()V", sig := { parameters := [], returnType := none }, accessFlags := 2, code := none }
def k2c1 : Code := { maxStack := 2, maxLocals := 2, code := jdk_29_method_65_code, exceptionTable := #[], attributes := #[] }
def k2m1 : Method := { name := "max", desc := "(II)I", sig := { parameters := [.int, .int], returnType := some .int }, accessFlags := 9, code := some k2c1 }
def k2c2 : Code := { maxStack := 2, maxLocals := 2, code := jdk_29_method_69_code, exceptionTable := #[], attributes := #[] }
def k2m2 : Method := { name := "min", desc := "(II)I", sig := { parameters := [.int, .int], returnType := some .int }, accessFlags := 9, code := some k2c2 }
/-- java/lang/Math -/
def k2 : Class := { plain "java/lang/Math" (some 0) with
  accessFlags := 49
  interfaces := #[]
  cf := some (fileOf pool2 1 #[.nestMembers #[98]] #[{ accessFlags := 2, nameIndex := 7, descriptorIndex := 8, attributes := #[] }, { accessFlags := 9, nameIndex := 198, descriptorIndex := 335, attributes := #[] }, { accessFlags := 9, nameIndex := 201, descriptorIndex := 335, attributes := #[] }] 49 4 #[] #[{ accessFlags := 25, nameIndex := 354, descriptorIndex := 339, attributes := #[] }, { accessFlags := 25, nameIndex := 358, descriptorIndex := 339, attributes := #[] }, { accessFlags := 25, nameIndex := 361, descriptorIndex := 339, attributes := #[] }, { accessFlags := 26, nameIndex := 364, descriptorIndex := 339, attributes := #[] }, { accessFlags := 26, nameIndex := 365, descriptorIndex := 339, attributes := #[] }, { accessFlags := 26, nameIndex := 172, descriptorIndex := 173, attributes := #[] }, { accessFlags := 26, nameIndex := 176, descriptorIndex := 173, attributes := #[] }, { accessFlags := 8, nameIndex := 344, descriptorIndex := 339, attributes := #[] }, { accessFlags := 8, nameIndex := 338, descriptorIndex := 339, attributes := #[] }, { accessFlags := 4120, nameIndex := 245, descriptorIndex := 246, attributes := #[] }])
  fields := #[{ name := "E", type := .double, accessFlags := 25, slot := 0, constantValue := 0 }, { name := "PI", type := .double, accessFlags := 25, slot := 1, constantValue := 0 }, { name := "TAU", type := .double, accessFlags := 25, slot := 2, constantValue := 0 }, { name := "DEGREES_TO_RADIANS", type := .double, accessFlags := 26, slot := 3, constantValue := 0 }, { name := "RADIANS_TO_DEGREES", type := .double, accessFlags := 26, slot := 4, constantValue := 0 }, { name := "negativeZeroFloatBits", type := .long, accessFlags := 26, slot := 5, constantValue := 0 }, { name := "negativeZeroDoubleBits", type := .long, accessFlags := 26, slot := 6, constantValue := 0 }, { name := "twoToTheDoubleScaleUp", type := .double, accessFlags := 8, slot := 7, constantValue := 0 }, { name := "twoToTheDoubleScaleDown", type := .double, accessFlags := 8, slot := 8, constantValue := 0 }, { name := "$assertionsDisabled", type := .boolean, accessFlags := 4120, slot := 9, constantValue := 0 }]
  methods := #[k2m0, k2m1, k2m2]
  instanceTypes := #[]
  staticTypes := #[.double, .double, .double, .double, .double, .long, .long, .double, .double, .boolean]
  resolved := Array.replicate 460 none
  statics := none }

def pool3 : Array CpInfo := pool [(1, .methodref 2 3), (0, .class_ 4), (0, .nameAndType 5 6), (0, u "java/lang/Object"), (0, u "<init>"), (0, u "()V"), (0, .class_ 8), (0, u "com/example/quantail/quantail/ItemArray")] 54

def k3c0 : Code := { maxStack := 1, maxLocals := 1, code := prog_4_method_1_code, exceptionTable := #[], attributes := #[] }
def k3m0 : Method := { name := "<init>", desc := "()V", sig := { parameters := [], returnType := none }, accessFlags := 0, code := some k3c0 }
/-- com/example/quantail/quantail/ItemArray -/
def k3 : Class := { plain "com/example/quantail/quantail/ItemArray" (some 0) with
  accessFlags := 1057
  interfaces := #[]
  cf := some (fileOf pool3 7 #[] #[{ accessFlags := 0, nameIndex := 5, descriptorIndex := 6, attributes := #[] }] 1057 2 #[] #[])
  fields := #[]
  methods := #[k3m0]
  instanceTypes := #[]
  staticTypes := #[]
  resolved := Array.replicate 63 none
  statics := none }

def pool4 : Array CpInfo := pool [(1, .methodref 2 3), (0, .class_ 4), (0, .nameAndType 5 6), (0, u "com/example/quantail/quantail/ItemArray"), (0, u "<init>"), (0, u "()V"), (0, .fieldref 8 9), (0, .class_ 10), (0, .nameAndType 11 12), (0, u "com/example/quantail/quantail/NumberArray"), (0, u "items"), (0, u "[D"), (1, .class_ 16), (1, u "java/lang/Double"), (14, .methodref 14 32), (0, .nameAndType 33 34), (0, u "valueOf"), (0, u "(D)Ljava/lang/Double;"), (47, u "get"), (0, u "(I)Ljava/lang/Double;"), (0, u "(I)V"), (10, u "setNumber"), (0, u "(ID)V"), (13, u "(II)V"), (0, u "reverse")] 15

def k4c0 : Code := { maxStack := 2, maxLocals := 2, code := prog_9_method_1_code, exceptionTable := #[], attributes := #[] }
def k4m0 : Method := { name := "<init>", desc := "(I)V", sig := { parameters := [.int], returnType := none }, accessFlags := 0, code := some k4c0 }
def k4c1 : Code := { maxStack := 2, maxLocals := 2, code := prog_9_method_6_code, exceptionTable := #[], attributes := #[] }
def k4m1 : Method := { name := "get", desc := "(I)Ljava/lang/Double;", sig := { parameters := [.int], returnType := some (.object "java/lang/Double") }, accessFlags := 1, code := some k4c1 }
def k4c2 : Code := { maxStack := 4, maxLocals := 4, code := prog_9_method_8_code, exceptionTable := #[], attributes := #[] }
def k4m2 : Method := { name := "setNumber", desc := "(ID)V", sig := { parameters := [.int, .double], returnType := none }, accessFlags := 1, code := some k4c2 }
def k4c3 : Code := { maxStack := 4, maxLocals := 7, code := prog_9_method_17_code, exceptionTable := #[], attributes := #[] }
def k4m3 : Method := { name := "reverse", desc := "(II)V", sig := { parameters := [.int, .int], returnType := none }, accessFlags := 1, code := some k4c3 }
/-- com/example/quantail/quantail/NumberArray -/
def k4 : Class := { plain "com/example/quantail/quantail/NumberArray" (some 3) with
  accessFlags := 48
  interfaces := #[]
  cf := some (fileOf pool4 8 #[] #[{ accessFlags := 0, nameIndex := 5, descriptorIndex := 84, attributes := #[] }, { accessFlags := 1, nameIndex := 82, descriptorIndex := 83, attributes := #[] }, { accessFlags := 1, nameIndex := 95, descriptorIndex := 96, attributes := #[] }, { accessFlags := 1, nameIndex := 111, descriptorIndex := 110, attributes := #[] }] 48 2 #[] #[{ accessFlags := 2, nameIndex := 11, descriptorIndex := 12, attributes := #[] }])
  fields := #[{ name := "items", type := (.array .double), accessFlags := 2, slot := 0, constantValue := 0 }]
  methods := #[k4m0, k4m1, k4m2, k4m3]
  instanceTypes := #[(.array .double)]
  staticTypes := #[]
  resolved := Array.replicate 127 none
  statics := none }

def pool5 : Array CpInfo := pool [(1, .class_ 2), (0, u "java/io/Serializable"), (0, .class_ 4), (0, u "java/lang/Object")] 2

/-- java/io/Serializable -/
def k5 : Class := { plain "java/io/Serializable" (some 0) with
  accessFlags := 1537
  interfaces := #[]
  cf := some (fileOf pool5 1 #[] #[] 1537 3 #[] #[])
  fields := #[]
  methods := #[]
  instanceTypes := #[]
  staticTypes := #[]
  resolved := Array.replicate 7 none
  statics := none }

def pool6 : Array CpInfo := pool [(1, .methodref 2 3), (0, .class_ 4), (0, .nameAndType 5 6), (0, u "java/lang/Object"), (0, u "<init>"), (0, u "()V"), (1, .class_ 10), (1, u "java/lang/Number"), (2, .class_ 14), (0, u "java/io/Serializable"), (0, u "serialVersionUID"), (0, u "J")] 20

def k6c0 : Code := { maxStack := 1, maxLocals := 1, code := jdk_18_method_1_code, exceptionTable := #[], attributes := #[] }
def k6m0 : Method := { name := "<init>", desc := "()V", sig := { parameters := [], returnType := none }, accessFlags := 1, code := some k6c0 }
/-- java/lang/Number -/
def k6 : Class := { plain "java/lang/Number" (some 0) with
  accessFlags := 1057
  interfaces := #[5]
  cf := some (fileOf pool6 8 #[] #[{ accessFlags := 1, nameIndex := 5, descriptorIndex := 6, attributes := #[] }] 1057 2 #[13] #[{ accessFlags := 26, nameIndex := 15, descriptorIndex := 16, attributes := #[] }])
  fields := #[{ name := "serialVersionUID", type := .long, accessFlags := 26, slot := 0, constantValue := 0 }]
  methods := #[k6m0]
  instanceTypes := #[]
  staticTypes := #[.long]
  resolved := Array.replicate 37 none
  statics := none }

def pool7 : Array CpInfo := pool [(1, .class_ 2), (0, u "java/lang/Comparable"), (0, .class_ 4), (0, u "java/lang/Object")] 7

/-- java/lang/Comparable -/
def k7 : Class := { plain "java/lang/Comparable" (some 0) with
  accessFlags := 1537
  interfaces := #[]
  cf := some (fileOf pool7 1 #[] #[] 1537 3 #[] #[])
  fields := #[]
  methods := #[]
  instanceTypes := #[]
  staticTypes := #[]
  resolved := Array.replicate 12 none
  statics := none }

def pool8 : Array CpInfo := pool [(1, .class_ 2), (0, u "java/lang/constant/Constable"), (0, .class_ 4), (0, u "java/lang/Object")] 6

/-- java/lang/constant/Constable -/
def k8 : Class := { plain "java/lang/constant/Constable" (some 0) with
  accessFlags := 1537
  interfaces := #[]
  cf := some (fileOf pool8 1 #[] #[] 1537 3 #[] #[])
  fields := #[]
  methods := #[]
  instanceTypes := #[]
  staticTypes := #[]
  resolved := Array.replicate 11 none
  statics := none }

def pool9 : Array CpInfo := pool [(1, .class_ 2), (0, u "java/lang/constant/ConstantDesc"), (0, .class_ 4), (0, u "java/lang/Object")] 32

/-- java/lang/constant/ConstantDesc -/
def k9 : Class := { plain "java/lang/constant/ConstantDesc" (some 0) with
  accessFlags := 1537
  interfaces := #[]
  cf := some (fileOf pool9 1 #[] #[] 1537 3 #[] #[])
  fields := #[]
  methods := #[]
  instanceTypes := #[]
  staticTypes := #[]
  resolved := Array.replicate 37 none
  statics := none }

def pool10 : Array CpInfo := pool [(1, .class_ 2), (0, u "java/lang/Double"), (17, u "<init>"), (84, .methodref 1 106), (0, .nameAndType 20 107), (0, u "(D)V"), (5, .methodref 114 115), (0, .class_ 116), (0, .nameAndType 20 117), (0, u "java/lang/Number"), (0, u "()V"), (0, .fieldref 1 119), (0, .nameAndType 120 121), (0, u "value"), (0, u "D"), (51, u "TYPE"), (0, u "Ljava/lang/Class;"), (0, .class_ 176), (0, u "java/lang/Comparable"), (0, .class_ 178), (0, u "java/lang/constant/Constable"), (0, .class_ 180), (0, u "java/lang/constant/ConstantDesc"), (0, u "POSITIVE_INFINITY"), (3, u "NEGATIVE_INFINITY"), (2, u "NaN"), (2, u "MAX_VALUE"), (0, u "MIN_NORMAL"), (0, u "MIN_VALUE"), (2, u "SIZE"), (0, u "I"), (1, u "PRECISION"), (1, u "MAX_EXPONENT"), (1, u "MIN_EXPONENT"), (1, u "BYTES"), (3, u "serialVersionUID"), (0, u "J"), (14, u "valueOf"), (5, u "(D)Ljava/lang/Double;"), (23, u "doubleValue"), (0, u "()D")] 33

def k10c0 : Code := { maxStack := 4, maxLocals := 2, code := jdk_117_method_4_code, exceptionTable := #[], attributes := #[] }
def k10m0 : Method := { name := "valueOf", desc := "(D)Ljava/lang/Double;", sig := { parameters := [.double], returnType := some (.object "java/lang/Double") }, accessFlags := 9, code := some k10c0 }
def k10c1 : Code := { maxStack := 3, maxLocals := 3, code := jdk_117_method_9_code, exceptionTable := #[], attributes := #[] }
def k10m1 : Method := { name := "<init>", desc := "(D)V", sig := { parameters := [.double], returnType := none }, accessFlags := 1, code := some k10c1 }
def k10c2 : Code := { maxStack := 2, maxLocals := 1, code := jdk_117_method_19_code, exceptionTable := #[], attributes := #[] }
def k10m2 : Method := { name := "doubleValue", desc := "()D", sig := { parameters := [], returnType := some .double }, accessFlags := 1, code := some k10c2 }
/-- java/lang/Double -/
def k10 : Class := { plain "java/lang/Double" (some 6) with
  accessFlags := 49
  interfaces := #[7, 8, 9]
  cf := some (fileOf pool10 1 #[] #[{ accessFlags := 9, nameIndex := 225, descriptorIndex := 231, attributes := #[] }, { accessFlags := 1, nameIndex := 20, descriptorIndex := 107, attributes := #[] }, { accessFlags := 1, nameIndex := 255, descriptorIndex := 256, attributes := #[] }] 49 114 #[175, 177, 179] #[{ accessFlags := 25, nameIndex := 181, descriptorIndex := 121, attributes := #[] }, { accessFlags := 25, nameIndex := 185, descriptorIndex := 121, attributes := #[] }, { accessFlags := 25, nameIndex := 188, descriptorIndex := 121, attributes := #[] }, { accessFlags := 25, nameIndex := 191, descriptorIndex := 121, attributes := #[] }, { accessFlags := 25, nameIndex := 192, descriptorIndex := 121, attributes := #[] }, { accessFlags := 25, nameIndex := 193, descriptorIndex := 121, attributes := #[] }, { accessFlags := 25, nameIndex := 196, descriptorIndex := 197, attributes := #[] }, { accessFlags := 25, nameIndex := 199, descriptorIndex := 197, attributes := #[] }, { accessFlags := 25, nameIndex := 201, descriptorIndex := 197, attributes := #[] }, { accessFlags := 25, nameIndex := 203, descriptorIndex := 197, attributes := #[] }, { accessFlags := 25, nameIndex := 205, descriptorIndex := 197, attributes := #[] }, { accessFlags := 25, nameIndex := 173, descriptorIndex := 174, attributes := #[] }, { accessFlags := 18, nameIndex := 120, descriptorIndex := 121, attributes := #[] }, { accessFlags := 26, nameIndex := 209, descriptorIndex := 210, attributes := #[] }])
  fields := #[{ name := "POSITIVE_INFINITY", type := .double, accessFlags := 25, slot := 0, constantValue := 0 }, { name := "NEGATIVE_INFINITY", type := .double, accessFlags := 25, slot := 1, constantValue := 0 }, { name := "NaN", type := .double, accessFlags := 25, slot := 2, constantValue := 0 }, { name := "MAX_VALUE", type := .double, accessFlags := 25, slot := 3, constantValue := 0 }, { name := "MIN_NORMAL", type := .double, accessFlags := 25, slot := 4, constantValue := 0 }, { name := "MIN_VALUE", type := .double, accessFlags := 25, slot := 5, constantValue := 0 }, { name := "SIZE", type := .int, accessFlags := 25, slot := 6, constantValue := 0 }, { name := "PRECISION", type := .int, accessFlags := 25, slot := 7, constantValue := 0 }, { name := "MAX_EXPONENT", type := .int, accessFlags := 25, slot := 8, constantValue := 0 }, { name := "MIN_EXPONENT", type := .int, accessFlags := 25, slot := 9, constantValue := 0 }, { name := "BYTES", type := .int, accessFlags := 25, slot := 10, constantValue := 0 }, { name := "TYPE", type := (.object "java/lang/Class"), accessFlags := 25, slot := 11, constantValue := 0 }, { name := "value", type := .double, accessFlags := 18, slot := 0, constantValue := 0 }, { name := "serialVersionUID", type := .long, accessFlags := 26, slot := 12, constantValue := 0 }]
  methods := #[k10m0, k10m1, k10m2]
  instanceTypes := #[.double]
  staticTypes := #[.double, .double, .double, .double, .double, .double, .int, .int, .int, .int, .int, (.object "java/lang/Class"), .long]
  resolved := Array.replicate 290 none
  statics := none }

def pool11 : Array CpInfo := pool [(1, u "java/lang/Cloneable"), (0, .class_ 1), (0, u "java/lang/Object"), (0, .class_ 3)] 3

/-- java/lang/Cloneable -/
def k11 : Class := { plain "java/lang/Cloneable" (some 0) with
  accessFlags := 1537
  interfaces := #[]
  cf := some (fileOf pool11 2 #[] #[] 1537 4 #[] #[])
  fields := #[]
  methods := #[]
  instanceTypes := #[]
  staticTypes := #[]
  resolved := Array.replicate 8 none
  statics := none }

/-- the primitive byte -/
def k12 : Class := { plain "byte" none with kind := .primitive 'B', accessFlags := 0x411 }
/-- [B -/
def k13 : Class := { plain "[B" (some 0) with kind := .array 12 .byte, interfaces := #[11, 5], accessFlags := 1041 }

/-- the primitive double -/
def k14 : Class := { plain "double" none with kind := .primitive 'D', accessFlags := 0x411 }
/-- [D -/
def k15 : Class := { plain "[D" (some 0) with kind := .array 14 .double, interfaces := #[11, 5], accessFlags := 1041 }

/-- the primitive int -/
def k16 : Class := { plain "int" none with kind := .primitive 'I', accessFlags := 0x411 }
/-- [I -/
def k17 : Class := { plain "[I" (some 0) with kind := .array 16 .int, interfaces := #[11, 5], accessFlags := 1041 }

def heap : Heap := #[]
def classes : Array Class := #[k0, k1, k2, k3, k4, k5, k6, k7, k8, k9, k10, k11, k12, k13, k14, k15, k16, k17]
def interned : List (Array UInt16 × Addr) := []
def slotsUsed : Nat := 0
def theMethod : MethodId := ⟨1, 1⟩
def args0 : Array Value := #[.int 5, .int 3, .int 5, .int 3, .int 5, .int 3]
def aboutOver (below : List Frame) : State where
  vm := { classes := classes, interned := interned.toArray }
  heap := heap
  slotsUsed := slotsUsed
  threads := #[{ frames := .invoking theMethod args0 :: below }]
def below0 : List Frame := [.native { method := ⟨0, 0⟩, args := #[] }]
def about1 : State := aboutOver below0
def p0 : Program := .bare "" "" ""
def e0 : Env := launch0.env 0 0 0
theorem w_frames : about1.frames = Frame.invoking theMethod args0 :: below0 := rfl
set_option maxRecDepth 65536 in
theorem w_args : argsFit about1.vm theMethod args0 = true := by decide +kernel
set_option maxRecDepth 65536 in
theorem w_heap : heapFits about1 = true := by decide +kernel
set_option maxRecDepth 65536 in
theorem w_runnable : about1.curStatus? = some .runnable := by decide +kernel
set_option maxRecDepth 65536 in
theorem w_alone : about1.alone = true := by decide +kernel
set_option maxRecDepth 65536 in
theorem w_named : about1.methodNamed? x = some theMethod := by decide +kernel
set_option maxRecDepth 65536 in
theorem w_hears : about1.hears theMethod below0 = true := by decide +kernel
set_option maxRecDepth 65536 in
theorem w_ripe : about1.ripe theMethod args0 below0 = true := by decide +kernel
theorem w_running : about1.status = .running := rfl
set_option maxRecDepth 65536 in
theorem w_room : about1.hasRoom e0.platform room_1 = true :=
  launch0.hasRoom_least _ room_1 (by decide +kernel) (by decide +kernel) (by decide +kernel) (by decide +kernel) (by decide +kernel) (by decide +kernel)
theorem allAtoms_all (ts : List Jvm.Cond) (a : Array Jvm.Value) (st : Jvm.State) : (allAtoms ts).before a st = ts.all (fun c => c.before a st) := by
  induction ts with
  | nil => rfl
  | cons c t ih =>
    show (Jvm.Cond.and c (allAtoms t)).before a st = _
    rw [Jvm.Cond.before_and, ih, List.all_cons]
def words1 : List Jvm.Cond := Jvm.Cond.code x code maxLocals ret :: tables_1
/-- a 'code' word, met by the world's own term for the bytes: nothing is compared byte by byte -/
theorem code_word {y : MethodName} {bytes : ByteArray} {mx : Nat} {rt : Option FieldType} {a : Array Value} {s : State} {m : MethodId} {meth : Method} {c : Code} (h1 : s.methodNamed? y = some m) (h2 : s.vm.method? m = some meth) (h3 : meth.code = some c) (h4 : c.code = bytes)
    (h5 : (c.maxLocals == mx && c.exceptionTable.isEmpty && decide (c.maxStack ≤ mostOperands) && decide (meth.sig.returnType = rt) && !meth.locks && decide (parseMethodDescriptor y.desc = some meth.sig)) = true) : (Jvm.Cond.code y bytes mx rt).before a s = true := by
  simp only [Bool.and_eq_true, beq_iff_eq, Bool.not_eq_true', decide_eq_true_eq] at h5
  obtain ⟨⟨⟨⟨⟨g1, g2⟩, g3⟩, g4⟩, g5⟩, g6⟩ := h5
  simp [Cond.before, Cond.holds, Cond.value, h1, h2, h3, h4, g1, g2, g3, g4, g5, g6]
def isCode : Jvm.Cond → Bool
  | .code _ _ _ _ => true
  | _ => false
theorem all_split {L : List Jvm.Cond} {P : Jvm.Cond → Bool} (h1 : L.all (fun c => isCode c || P c) = true) (h2 : ∀ c ∈ L.filter isCode, P c = true) : L.all P = true := by
  refine List.all_eq_true.mpr fun c hc => ?_
  have h := List.all_eq_true.mp h1 c hc
  rcases Bool.eq_false_or_eq_true (isCode c) with hi | hi
  · exact h2 c (List.mem_filter.mpr ⟨hc, hi⟩)
  · simpa [hi] using h
set_option maxRecDepth 65536 in
theorem w_c0 : (Jvm.Cond.code x code maxLocals ret).before args0 about1 = true := code_word (m := ⟨1, 1⟩) (meth := k1m1) (c := k1c1) (by decide +kernel) rfl rfl rfl (by decide +kernel)
set_option maxRecDepth 65536 in
theorem w_c1 : (Jvm.Cond.code ({ cls := "java/lang/Math", name := "min", desc := "(II)I" } : Jvm.MethodName) jdk_29_method_69_code (2 : Nat) (Option.some Jvm.ClassFile.FieldType.int)).before args0 about1 = true := code_word (m := ⟨2, 2⟩) (meth := k2m2) (c := k2c2) (by decide +kernel) rfl rfl rfl (by decide +kernel)
set_option maxRecDepth 65536 in
theorem w_c2 : (Jvm.Cond.code ({ cls := "java/lang/Math", name := "max", desc := "(II)I" } : Jvm.MethodName) jdk_29_method_65_code (2 : Nat) (Option.some Jvm.ClassFile.FieldType.int)).before args0 about1 = true := code_word (m := ⟨2, 1⟩) (meth := k2m1) (c := k2c1) (by decide +kernel) rfl rfl rfl (by decide +kernel)
set_option maxRecDepth 65536 in
theorem w_c3 : (Jvm.Cond.code ({ cls := "com/example/quantail/quantail/NumberArray", name := "<init>", desc := "(I)V" } : Jvm.MethodName) prog_9_method_1_code (2 : Nat) (Option.none : Option Jvm.ClassFile.FieldType)).before args0 about1 = true := code_word (m := ⟨4, 0⟩) (meth := k4m0) (c := k4c0) (by decide +kernel) rfl rfl rfl (by decide +kernel)
set_option maxRecDepth 65536 in
theorem w_c4 : (Jvm.Cond.code ({ cls := "com/example/quantail/quantail/ItemArray", name := "<init>", desc := "()V" } : Jvm.MethodName) prog_4_method_1_code (1 : Nat) (Option.none : Option Jvm.ClassFile.FieldType)).before args0 about1 = true := code_word (m := ⟨3, 0⟩) (meth := k3m0) (c := k3c0) (by decide +kernel) rfl rfl rfl (by decide +kernel)
set_option maxRecDepth 65536 in
theorem w_c5 : (Jvm.Cond.code ({ cls := "java/lang/Object", name := "<init>", desc := "()V" } : Jvm.MethodName) object_method_1_code (1 : Nat) (Option.none : Option Jvm.ClassFile.FieldType)).before args0 about1 = true := code_word (m := ⟨0, 0⟩) (meth := k0m0) (c := k0c0) (by decide +kernel) rfl rfl rfl (by decide +kernel)
set_option maxRecDepth 65536 in
theorem w_c6 : (Jvm.Cond.code ({ cls := "com/example/quantail/quantail/NumberArray", name := "setNumber", desc := "(ID)V" } : Jvm.MethodName) prog_9_method_8_code (4 : Nat) (Option.none : Option Jvm.ClassFile.FieldType)).before args0 about1 = true := code_word (m := ⟨4, 2⟩) (meth := k4m2) (c := k4c2) (by decide +kernel) rfl rfl rfl (by decide +kernel)
set_option maxRecDepth 65536 in
theorem w_c7 : (Jvm.Cond.code ({ cls := "com/example/quantail/quantail/NumberArray", name := "reverse", desc := "(II)V" } : Jvm.MethodName) prog_9_method_17_code (7 : Nat) (Option.none : Option Jvm.ClassFile.FieldType)).before args0 about1 = true := code_word (m := ⟨4, 3⟩) (meth := k4m3) (c := k4c3) (by decide +kernel) rfl rfl rfl (by decide +kernel)
set_option maxRecDepth 65536 in
theorem w_c8 : (Jvm.Cond.code ({ cls := "com/example/quantail/quantail/NumberArray", name := "get", desc := "(I)Ljava/lang/Double;" } : Jvm.MethodName) prog_9_method_6_code (2 : Nat) (Option.some (Jvm.ClassFile.FieldType.object "java/lang/Double"))).before args0 about1 = true := code_word (m := ⟨4, 1⟩) (meth := k4m1) (c := k4c1) (by decide +kernel) rfl rfl rfl (by decide +kernel)
set_option maxRecDepth 65536 in
theorem w_c9 : (Jvm.Cond.code ({ cls := "java/lang/Double", name := "valueOf", desc := "(D)Ljava/lang/Double;" } : Jvm.MethodName) jdk_117_method_4_code (2 : Nat) (Option.some (Jvm.ClassFile.FieldType.object "java/lang/Double"))).before args0 about1 = true := code_word (m := ⟨10, 0⟩) (meth := k10m0) (c := k10c0) (by decide +kernel) rfl rfl rfl (by decide +kernel)
set_option maxRecDepth 65536 in
theorem w_c10 : (Jvm.Cond.code ({ cls := "java/lang/Double", name := "<init>", desc := "(D)V" } : Jvm.MethodName) jdk_117_method_9_code (3 : Nat) (Option.none : Option Jvm.ClassFile.FieldType)).before args0 about1 = true := code_word (m := ⟨10, 1⟩) (meth := k10m1) (c := k10c1) (by decide +kernel) rfl rfl rfl (by decide +kernel)
set_option maxRecDepth 65536 in
theorem w_c11 : (Jvm.Cond.code ({ cls := "java/lang/Number", name := "<init>", desc := "()V" } : Jvm.MethodName) jdk_18_method_1_code (1 : Nat) (Option.none : Option Jvm.ClassFile.FieldType)).before args0 about1 = true := code_word (m := ⟨6, 0⟩) (meth := k6m0) (c := k6c0) (by decide +kernel) rfl rfl rfl (by decide +kernel)
set_option maxRecDepth 65536 in
theorem w_c12 : (Jvm.Cond.code ({ cls := "java/lang/Double", name := "doubleValue", desc := "()D" } : Jvm.MethodName) jdk_117_method_19_code (1 : Nat) (Option.some Jvm.ClassFile.FieldType.double)).before args0 about1 = true := code_word (m := ⟨10, 2⟩) (meth := k10m2) (c := k10c2) (by decide +kernel) rfl rfl rfl (by decide +kernel)
set_option maxRecDepth 65536 in
theorem w_c13 : (Jvm.Cond.code ({ cls := "com/example/quantail/quantail/NumberArrayReversePinLaw", name := "expected", desc := "([DIII)D" } : Jvm.MethodName) method_3_code (4 : Nat) (Option.some Jvm.ClassFile.FieldType.double)).before args0 about1 = true := code_word (m := ⟨1, 2⟩) (meth := k1m2) (c := k1c2) (by decide +kernel) rfl rfl rfl (by decide +kernel)
def codes1 : List Jvm.Cond := [Jvm.Cond.code x code maxLocals ret, Jvm.Cond.code ({ cls := "java/lang/Math", name := "min", desc := "(II)I" } : Jvm.MethodName) jdk_29_method_69_code (2 : Nat) (Option.some Jvm.ClassFile.FieldType.int), Jvm.Cond.code ({ cls := "java/lang/Math", name := "max", desc := "(II)I" } : Jvm.MethodName) jdk_29_method_65_code (2 : Nat) (Option.some Jvm.ClassFile.FieldType.int), Jvm.Cond.code ({ cls := "com/example/quantail/quantail/NumberArray", name := "<init>", desc := "(I)V" } : Jvm.MethodName) prog_9_method_1_code (2 : Nat) (Option.none : Option Jvm.ClassFile.FieldType), Jvm.Cond.code ({ cls := "com/example/quantail/quantail/ItemArray", name := "<init>", desc := "()V" } : Jvm.MethodName) prog_4_method_1_code (1 : Nat) (Option.none : Option Jvm.ClassFile.FieldType), Jvm.Cond.code ({ cls := "java/lang/Object", name := "<init>", desc := "()V" } : Jvm.MethodName) object_method_1_code (1 : Nat) (Option.none : Option Jvm.ClassFile.FieldType), Jvm.Cond.code ({ cls := "com/example/quantail/quantail/NumberArray", name := "setNumber", desc := "(ID)V" } : Jvm.MethodName) prog_9_method_8_code (4 : Nat) (Option.none : Option Jvm.ClassFile.FieldType), Jvm.Cond.code ({ cls := "com/example/quantail/quantail/NumberArray", name := "reverse", desc := "(II)V" } : Jvm.MethodName) prog_9_method_17_code (7 : Nat) (Option.none : Option Jvm.ClassFile.FieldType), Jvm.Cond.code ({ cls := "com/example/quantail/quantail/NumberArray", name := "get", desc := "(I)Ljava/lang/Double;" } : Jvm.MethodName) prog_9_method_6_code (2 : Nat) (Option.some (Jvm.ClassFile.FieldType.object "java/lang/Double")), Jvm.Cond.code ({ cls := "java/lang/Double", name := "valueOf", desc := "(D)Ljava/lang/Double;" } : Jvm.MethodName) jdk_117_method_4_code (2 : Nat) (Option.some (Jvm.ClassFile.FieldType.object "java/lang/Double")), Jvm.Cond.code ({ cls := "java/lang/Double", name := "<init>", desc := "(D)V" } : Jvm.MethodName) jdk_117_method_9_code (3 : Nat) (Option.none : Option Jvm.ClassFile.FieldType), Jvm.Cond.code ({ cls := "java/lang/Number", name := "<init>", desc := "()V" } : Jvm.MethodName) jdk_18_method_1_code (1 : Nat) (Option.none : Option Jvm.ClassFile.FieldType), Jvm.Cond.code ({ cls := "java/lang/Double", name := "doubleValue", desc := "()D" } : Jvm.MethodName) jdk_117_method_19_code (1 : Nat) (Option.some Jvm.ClassFile.FieldType.double), Jvm.Cond.code ({ cls := "com/example/quantail/quantail/NumberArrayReversePinLaw", name := "expected", desc := "([DIII)D" } : Jvm.MethodName) method_3_code (4 : Nat) (Option.some Jvm.ClassFile.FieldType.double)]
set_option maxRecDepth 65536 in
theorem codes_eq : words1.filter isCode = codes1 := rfl
theorem w_codes : ∀ c ∈ words1.filter isCode, c.before args0 about1 = true := by
  rw [codes_eq]
  intro c hc
  simp only [codes1, List.mem_cons, List.not_mem_nil, or_false] at hc
  rcases hc with rfl | rfl | rfl | rfl | rfl | rfl | rfl | rfl | rfl | rfl | rfl | rfl | rfl | rfl
  · exact w_c0
  · exact w_c1
  · exact w_c2
  · exact w_c3
  · exact w_c4
  · exact w_c5
  · exact w_c6
  · exact w_c7
  · exact w_c8
  · exact w_c9
  · exact w_c10
  · exact w_c11
  · exact w_c12
  · exact w_c13
set_option maxRecDepth 65536 in
theorem w_t1 : (words1.take 24).all (fun c => isCode c || c.before args0 about1) = true := by decide +kernel
set_option maxRecDepth 65536 in
theorem w_t2 : ((words1.drop 24).take 24).all (fun c => isCode c || c.before args0 about1) = true := by decide +kernel
set_option maxRecDepth 65536 in
theorem w_t3 : ((words1.drop 24).drop 24).all (fun c => isCode c || c.before args0 about1) = true := by decide +kernel
theorem w_tables : (allAtoms (Jvm.Cond.code x code maxLocals ret :: tables_1)).before args0 about1 = true := by
  rw [allAtoms_all]
  show words1.all (fun c => c.before args0 about1) = true
  refine all_split ?_ w_codes
  rw [← List.take_append_drop 24 words1, List.all_append, w_t1, ← List.take_append_drop 24 (words1.drop 24), List.all_append, w_t2, w_t3]
  rfl
set_option maxRecDepth 65536 in
theorem w_case : (Jvm.Cond.and given_1 narrow_1).before args0 about1 = true := by decide +kernel
theorem w_applies : (headSpec (Jvm.Cond.code x code maxLocals ret :: tables_1) room_1).applies x e0.platform about1 = true :=
  (Spec.applies_iff w_frames).mpr ⟨w_running, w_runnable, w_alone, w_named, w_hears, w_ripe, w_room, w_tables⟩
theorem atStart : AtStart classFile x code maxLocals ret World_1 tables_1 room_1 Calls_1 rest_1 Pre_1 launch0 p0 e0 about1 theMethod args0 below0 :=
  ⟨lists_1, trivial, launch0.admits_env _ _ _, launch0.least_env, fairChoices_fair.cas, fairChoices_fair.clock, w_frames, w_args, w_heap, w_applies, trivial, trivial, w_case⟩
end start1
theorem witness_1 : WitnessClaimed_1 := ⟨start1.p0, start1.e0, start1.about1, start1.theMethod, start1.args0, start1.below0, start1.atStart⟩
end Jvm.Pilot.@@N@@
