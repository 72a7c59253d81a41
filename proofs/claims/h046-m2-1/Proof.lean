import JvmDerived
import JvmDerived.Pilot.@@N@@Statement
import JvmDerived.Pilot.@@N@@Code
set_option linter.unusedVariables false
set_option linter.unusedSimpArgs false
namespace Jvm.Pilot.@@N@@
open Jvm Jvm.ClassFile Sem Op Lib Jvm.Free Jvm.Stand Jvm.LawKit Jvm.RoadKit Bundle Jvm.Pilot.@@N@@.Jvm.D
/-- from A the run comes to an end of the body that says P -/
def Goes (p : Program) (e : Env) (below : List Frame) (s : State) (P : Option Value → Heap → List Loc → Prop) (k n : Nat) (A : State) : Prop :=
  ∃ s₂ o, Steps p.tables e below A s₂ ∧ s₂.status = .running ∧ Ended s₂ below o ∧ ∃ v L, o = .returned v ∧ P v s₂.heap L ∧ FrameEnd s o s₂ L k n
section OwnGoes
variable {p : Program} {l : Launch} {e : Env} {R : Room} {s : State} {m : MethodId} {args : Array Value} {below : List Frame} {meth : Method} {c : Code} {T : State} {locs : List Loc} {cells slots : Nat} {P : Option Value → Heap → List Loc → Prop} {k n : Nat} {A B : State}
theorem Goes.pre (h : ∀ t, Steps p.tables e below B t → Steps p.tables e below A t) (g : Goes p e below s P k n B) : Goes p e below s P k n A := by
  obtain ⟨t, o, h1, r⟩ := g
  exact ⟨t, o, h _ h1, r⟩
theorem Goes.run (h : Steps p.tables e below A B) (g : Goes p e below s P k n B) : Goes p e below s P k n A := g.pre fun _ q => h.trans q
theorem Goes.ret (X : Stand p l e R s m args below meth c T locs cells slots) (v : Option Value) (hv : meth.sig.returnType = none → v = none) (hlocks : meth.locks = false) (hk : cells ≤ k) (hn : slots ≤ n) {f : JFrame}
    (st : ∀ fs : List Frame, (∀ (f : JFrame) (acts : List Action), f.method = m → f.locked = none → f.entered = [] → (doReturn e (T.setTop f) acts v).1 = T.setFrames fs) → Steps p.tables e below (T.setTop f) (T.setFrames fs))
    (hP : P v T.heap locs) : Goes p e below s P k n (T.setTop f) := by
  obtain ⟨fs, hr, hrun, hended, hW, hsame⟩ := X.leave (v := v) hv hlocks
  exact ⟨_, _, st fs hr, hrun, hended, _, _, rfl, hP, ⟨_, rfl⟩, hW, hsame.mono hk hn⟩
end OwnGoes

theorem own_d (a w t : Int64) : (a + ((((a + t) - a) / w) + (1 : Int64)) * w) - (a + t) = w - (t - (t / w) * w) := by
  have h : (a + t) - a = t := by grind
  rw [h]
  generalize t / w = q
  grind
theorem own_b (t w : Int64) (ht : 0 ≤ t.toInt) (hw : 0 ≤ w.toInt) (h0 : ¬ w = 0) : (0 : Int64) < w - (t - (t / w) * w) ∧ ¬ w < w - (t - (t / w) * w) := by
  have hw1 : w.toInt ≠ 0 := fun q => h0 (Int64.toInt_inj.mp (by rw [q]; rfl))
  have h1 := (c_lrem t w w.toInt rfl).1 ht
  have h2 := c_lsub w (t - (t / w) * w)
  generalize t - (t / w) * w = r at *
  have h3 := Int.emod_nonneg t.toInt hw1
  have h4 := Int.emod_lt_of_pos t.toInt (show 0 < w.toInt by omega)
  have h5 := rng64 (w - r)
  have h6 := rng64 w
  have h7 : (0 : Int64).toInt = 0 := by decide
  rw [Int64.lt_iff_toInt_lt, Int64.lt_iff_toInt_lt, h7]
  omega
theorem own_m (x : Int64) : 0 ≤ (x &&& (9223372036854775807 : Int64)).toInt := by
  have := (c_andSL x (9223372036854775807 : Int64)).2.2 (by decide)
  exact this
theorem d1_0 : decode prog_36_method_2_code 0 = .ok (.lload 4, 2) := by decide +kernel
theorem d1_2 : decode prog_36_method_2_code 2 = .ok (.lload_n 0, 1) := by decide +kernel
theorem d1_3 : decode prog_36_method_2_code 3 = .ok (.lsub, 1) := by decide +kernel
theorem d1_4 : decode prog_36_method_2_code 4 = .ok (.lstore 6, 2) := by decide +kernel
theorem d1_6 : decode prog_36_method_2_code 6 = .ok (.lload_n 0, 1) := by decide +kernel
theorem d1_7 : decode prog_36_method_2_code 7 = .ok (.lload 6, 2) := by decide +kernel
theorem d1_9 : decode prog_36_method_2_code 9 = .ok (.lload_n 2, 1) := by decide +kernel
theorem d1_10 : decode prog_36_method_2_code 10 = .ok (.ldiv, 1) := by decide +kernel
theorem d1_11 : decode prog_36_method_2_code 11 = .ok (.lconst 1, 1) := by decide +kernel
theorem d1_12 : decode prog_36_method_2_code 12 = .ok (.ladd, 1) := by decide +kernel
theorem d1_13 : decode prog_36_method_2_code 13 = .ok (.lload_n 2, 1) := by decide +kernel
theorem d1_14 : decode prog_36_method_2_code 14 = .ok (.lmul, 1) := by decide +kernel
theorem d1_15 : decode prog_36_method_2_code 15 = .ok (.ladd, 1) := by decide +kernel
theorem d1_16 : decode prog_36_method_2_code 16 = .ok (.lreturn, 1) := by decide +kernel
theorem pn_0 : plainName "com/example/libshed/libshed/limit/Windows" = true := by first | (simp [plainName, overriddenIn]; done) | decide +kernel
def Q_rm1 (Z : State) (q1 : Int64) (q2 : Int64) (q3 : Int64) (h0 : Heap) (n0 : Nat) (v : Option Value) (h : Heap) (L : List Loc) : Prop := v = some (.long (q1 + ((((q3 - q1) / q2) + (1 : Int64)) * q2))) ∧ Fr n0 L ∧ h = h0
theorem ef_rm1 (m : MethodId) (q1 : Int64) (q2 : Int64) (q3 : Int64) : entryFrame m #[(.long q1), (.long q2), (.long q3)] 8 = mkF m 0 #[.val (.long q1), .second, .val (.long q2), .second, .val (.long q3), .second, .unset, .unset] [] := by first | (simp [entryFrame, mkF, argsToLocals, Value.category]; done) | rfl
set_option maxRecDepth 65536 in
set_option maxHeartbeats 40000000 in
theorem rm1 (l : Launch) (Z : State) (a0 : Array Value) (hw : ∀ d ∈ tables_1, d.before a0 Z = true) (ws : List Jvm.Cond) (q1 : Int64) (q2 : Int64) (q3 : Int64) (h0 : Heap) (n0 : Nat) (Z0 : n0 ≤ h0.size) (hnz : ¬ q2 = (0 : Int64)) :
    MetFree l (⟨"com/example/libshed/libshed/limit/Windows", "endAfter", "(JJJ)J"⟩ : MethodName) (head1 (Jvm.Cond.code (⟨"com/example/libshed/libshed/limit/Windows", "endAfter", "(JJJ)J"⟩ : MethodName) prog_36_method_2_code 8 (some .long) :: ws) ({ frames := 0, cells := 0, slots := 0, locals := 0 } : Room)) (fun a U => a = #[(.long q1), (.long q2), (.long q3)] ∧ Z.Warmed39 U.vm ∧ U.heap = h0) (fun _ _ _ _ _ => True) (fun _ U o U' => ∃ v L, o = .returned v ∧ Q_rm1 Z q1 q2 q3 h0 n0 v U'.heap L ∧ FrameEnd U o U' L ({ frames := 0, cells := 0, slots := 0, locals := 0 } : Room).cells ({ frames := 0, cells := 0, slots := 0, locals := 0 } : Room).slots) := by
  refine MetFree.of_bodySF (plainFor_of_name pn_0) hisR ?_
  intro p e s m args below meth c s₁ Bd hml0 hP hK
  obtain ⟨rfl, hZ, hh⟩ := hP
  have hx := Bd.exec
  have hby := Bd.bytes
  have hml : c.maxLocals = 8 := hml0
  have hown : s.vm.findClass "com/example/libshed/libshed/limit/Windows" = some m.cls := findClass_of_methodNamed Bd.named
  have hnm := (name_of_methodNamed Bd.named Bd.method).1
  have X0 : Stand p l e ({ frames := 0, cells := 0, slots := 0, locals := 0 } : Room) s m #[(.long q1), (.long q2), (.long q3)] below meth c s₁ [] 0 0 := Stand.of_body Bd
  have e0 : s₁.heap = h0 := by rw [← hh, Bd.state]; rfl
  have N0 := Fr.nil n0
  show Goes p e below s (Q_rm1 Z q1 q2 q3 h0 n0) ({ frames := 0, cells := 0, slots := 0, locals := 0 } : Room).cells ({ frames := 0, cells := 0, slots := 0, locals := 0 } : Room).slots (s₁.setTop (entryFrame m #[(.long q1), (.long q2), (.long q3)] 8))
  refine Goes.pre (fun t kt => castTop (ef_rm1 m q1 q2 q3) kt) ?_
  show Goes p e below s _ _ _ (s₁.setTop (mkF m 0 #[.val (.long q1), .second, .val (.long q2), .second, .val (.long q3), .second, .unset, .unset] []))
  refine Goes.pre (fun t kt => XS.lload X0.here hx rfl (hb hby d1_0) rfl kt) ?_
  show Goes p e below s _ _ _ (s₁.setTop (mkF m 2 #[.val (.long q1), .second, .val (.long q2), .second, .val (.long q3), .second, .unset, .unset] [(.long q3)]))
  refine Goes.pre (fun t kt => XS.lloadN X0.here hx rfl (hb hby d1_2) rfl kt) ?_
  show Goes p e below s _ _ _ (s₁.setTop (mkF m 3 #[.val (.long q1), .second, .val (.long q2), .second, .val (.long q3), .second, .unset, .unset] [(.long q1), (.long q3)]))
  refine Goes.pre (fun t kt => XS.lsub X0.here hx rfl (hb hby d1_3) rfl kt) ?_
  show Goes p e below s _ _ _ (s₁.setTop (mkF m 4 #[.val (.long q1), .second, .val (.long q2), .second, .val (.long q3), .second, .unset, .unset] [(.long (q3 - q1))]))
  refine Goes.pre (fun t kt => XS.lstore X0.here hx rfl (hb hby d1_4) rfl (l' := #[.val (.long q1), .second, .val (.long q2), .second, .val (.long q3), .second, .val (.long (q3 - q1)), .second]) rfl kt) ?_
  show Goes p e below s _ _ _ (s₁.setTop (mkF m 6 #[.val (.long q1), .second, .val (.long q2), .second, .val (.long q3), .second, .val (.long (q3 - q1)), .second] []))
  refine Goes.pre (fun t kt => XS.lloadN X0.here hx rfl (hb hby d1_6) rfl kt) ?_
  show Goes p e below s _ _ _ (s₁.setTop (mkF m 7 #[.val (.long q1), .second, .val (.long q2), .second, .val (.long q3), .second, .val (.long (q3 - q1)), .second] [(.long q1)]))
  refine Goes.pre (fun t kt => XS.lload X0.here hx rfl (hb hby d1_7) rfl kt) ?_
  show Goes p e below s _ _ _ (s₁.setTop (mkF m 9 #[.val (.long q1), .second, .val (.long q2), .second, .val (.long q3), .second, .val (.long (q3 - q1)), .second] [(.long (q3 - q1)), (.long q1)]))
  refine Goes.pre (fun t kt => XS.lloadN X0.here hx rfl (hb hby d1_9) rfl kt) ?_
  show Goes p e below s _ _ _ (s₁.setTop (mkF m 10 #[.val (.long q1), .second, .val (.long q2), .second, .val (.long q3), .second, .val (.long (q3 - q1)), .second] [(.long q2), (.long (q3 - q1)), (.long q1)]))
  refine Goes.pre (fun t kt => XS.ldiv X0.here hx rfl (hb hby d1_10) rfl hnz kt) ?_
  show Goes p e below s _ _ _ (s₁.setTop (mkF m 11 #[.val (.long q1), .second, .val (.long q2), .second, .val (.long q3), .second, .val (.long (q3 - q1)), .second] [(.long ((q3 - q1) / q2)), (.long q1)]))
  refine Goes.pre (fun t kt => XS.lconst X0.here hx rfl (hb hby d1_11) kt) ?_
  show Goes p e below s _ _ _ (s₁.setTop (mkF m 12 #[.val (.long q1), .second, .val (.long q2), .second, .val (.long q3), .second, .val (.long (q3 - q1)), .second] [(.long (1 : Int64)), (.long ((q3 - q1) / q2)), (.long q1)]))
  refine Goes.pre (fun t kt => XS.ladd X0.here hx rfl (hb hby d1_12) rfl kt) ?_
  show Goes p e below s _ _ _ (s₁.setTop (mkF m 13 #[.val (.long q1), .second, .val (.long q2), .second, .val (.long q3), .second, .val (.long (q3 - q1)), .second] [(.long (((q3 - q1) / q2) + (1 : Int64))), (.long q1)]))
  refine Goes.pre (fun t kt => XS.lloadN X0.here hx rfl (hb hby d1_13) rfl kt) ?_
  show Goes p e below s _ _ _ (s₁.setTop (mkF m 14 #[.val (.long q1), .second, .val (.long q2), .second, .val (.long q3), .second, .val (.long (q3 - q1)), .second] [(.long q2), (.long (((q3 - q1) / q2) + (1 : Int64))), (.long q1)]))
  refine Goes.pre (fun t kt => XS.lmul X0.here hx rfl (hb hby d1_14) rfl kt) ?_
  show Goes p e below s _ _ _ (s₁.setTop (mkF m 15 #[.val (.long q1), .second, .val (.long q2), .second, .val (.long q3), .second, .val (.long (q3 - q1)), .second] [(.long ((((q3 - q1) / q2) + (1 : Int64)) * q2)), (.long q1)]))
  refine Goes.pre (fun t kt => XS.ladd X0.here hx rfl (hb hby d1_15) rfl kt) ?_
  show Goes p e below s _ _ _ (s₁.setTop (mkF m 16 #[.val (.long q1), .second, .val (.long q2), .second, .val (.long q3), .second, .val (.long (q3 - q1)), .second] [(.long (q1 + ((((q3 - q1) / q2) + (1 : Int64)) * q2)))]))
  refine Goes.ret X0 (some (.long (q1 + ((((q3 - q1) / q2) + (1 : Int64)) * q2)))) (fun h => by rw [Bd.returns] at h; cases h) (BodyLoose.notSynchronized Bd) (by decide) (by decide) (fun fs hr => retOut X0 hx (t := .long) Bd.returns rfl (Or.inr (Or.inl ⟨rfl, rfl, _, rfl⟩)) (hb hby d1_16) hr) ?_
  show Q_rm1 Z q1 q2 q3 h0 n0 _ s₁.heap _
  rw [e0]
  exact ⟨rfl, N0, rfl⟩
theorem pd_1 : parseMethodDescriptor "(JJJ)J" = some ⟨[.long, .long, .long], some .long⟩ := by decide +kernel
theorem pn_2 : plainName "com/example/libshed/libshed/limit/WindowsEndAfterPinLaw" = true := by first | (simp [plainName, overriddenIn]; done) | decide +kernel
def Q_rm0 (Z : State) (q1 : Int64) (q2 : Int64) (q3 : Int64) (h0 : Heap) (n0 : Nat) (v : Option Value) (h : Heap) (L : List Loc) : Prop := v = some (.int (1 : Int32)) ∧ Fr n0 L
theorem ef_rm0 (m : MethodId) (q1 : Int64) (q2 : Int64) (q3 : Int64) : entryFrame m #[(.long q1), (.long q2), (.long q3)] maxLocals = mkF m 0 #[.val (.long q1), .second, .val (.long q2), .second, .val (.long q3), .second, .unset, .unset, .unset, .unset, .unset, .unset, .unset, .unset, .unset, .unset, .unset, .unset, .unset, .unset] [] := by first | (simp [entryFrame, mkF, argsToLocals, Value.category, maxLocals]; done) | rfl
set_option maxRecDepth 65536 in
set_option maxHeartbeats 40000000 in
theorem rm0 (l : Launch) (Z : State) (a0 : Array Value) (hw : ∀ d ∈ tables_1, d.before a0 Z = true) (ws : List Jvm.Cond) (q1 : Int64) (q2 : Int64) (q3 : Int64) (h0 : Heap) (n0 : Nat) (Z0 : n0 ≤ h0.size) :
    MetFree l x (head1 (Jvm.Cond.code x code maxLocals ret :: ws) room_1) (fun a U => a = #[(.long q1), (.long q2), (.long q3)] ∧ Z.Warmed39 U.vm ∧ U.heap = h0) (fun _ _ _ _ _ => True) (fun _ U o U' => ∃ v L, o = .returned v ∧ Q_rm0 Z q1 q2 q3 h0 n0 v U'.heap L ∧ FrameEnd U o U' L room_1.cells room_1.slots) := by
  refine MetFree.of_bodySF (plainFor_of_name pn_2) hisR ?_
  intro p e s m args below meth c s₁ Bd hml0 hP hK
  obtain ⟨rfl, hZ, hh⟩ := hP
  have hx := Bd.exec
  have hby := Bd.bytes
  have hml : c.maxLocals = 20 := hml0
  have hown : s.vm.findClass "com/example/libshed/libshed/limit/WindowsEndAfterPinLaw" = some m.cls := findClass_of_methodNamed Bd.named
  have hnm := (name_of_methodNamed Bd.named Bd.method).1
  have X0 : Stand p l e room_1 s m #[(.long q1), (.long q2), (.long q3)] below meth c s₁ [] 0 0 := Stand.of_body Bd
  have e0 : s₁.heap = h0 := by rw [← hh, Bd.state]; rfl
  have N0 := Fr.nil n0
  show Goes p e below s (Q_rm0 Z q1 q2 q3 h0 n0) room_1.cells room_1.slots (s₁.setTop (entryFrame m #[(.long q1), (.long q2), (.long q3)] maxLocals))
  refine Goes.pre (fun t kt => castTop (ef_rm0 m q1 q2 q3) kt) ?_
  show Goes p e below s _ _ _ (s₁.setTop (mkF m 0 #[.val (.long q1), .second, .val (.long q2), .second, .val (.long q3), .second, .unset, .unset, .unset, .unset, .unset, .unset, .unset, .unset, .unset, .unset, .unset, .unset, .unset, .unset] []))
  refine Goes.pre (fun t kt => XS.lloadN X0.here hx rfl (hb hby at_0) rfl kt) ?_
  show Goes p e below s _ _ _ (s₁.setTop (mkF m 1 #[.val (.long q1), .second, .val (.long q2), .second, .val (.long q3), .second, .unset, .unset, .unset, .unset, .unset, .unset, .unset, .unset, .unset, .unset, .unset, .unset, .unset, .unset] [(.long q2)]))
  refine Goes.pre (X0.ldc2Long hx hown (mvT hZ (hw _ (List.mem_of_getElem? (i := 0) rfl))) (g := (mkF m 1 #[.val (.long q1), .second, .val (.long q2), .second, .val (.long q3), .second, .unset, .unset, .unset, .unset, .unset, .unset, .unset, .unset, .unset, .unset, .unset, .unset, .unset, .unset] [(.long q2)])) rfl (hb hby at_1)) ?_
  show Goes p e below s _ _ _ (s₁.setTop (mkF m 4 #[.val (.long q1), .second, .val (.long q2), .second, .val (.long q3), .second, .unset, .unset, .unset, .unset, .unset, .unset, .unset, .unset, .unset, .unset, .unset, .unset, .unset, .unset] [(.long (9223372036854775807 : Int64)), (.long q2)]))
  refine Goes.pre (fun t kt => XS.land X0.here hx rfl (hb hby at_4) rfl kt) ?_
  show Goes p e below s _ _ _ (s₁.setTop (mkF m 5 #[.val (.long q1), .second, .val (.long q2), .second, .val (.long q3), .second, .unset, .unset, .unset, .unset, .unset, .unset, .unset, .unset, .unset, .unset, .unset, .unset, .unset, .unset] [(.long (q2 &&& (9223372036854775807 : Int64)))]))
  refine Goes.pre (fun t kt => XS.lstore X0.here hx rfl (hb hby at_5) rfl (l' := #[.val (.long q1), .second, .val (.long q2), .second, .val (.long q3), .second, .val (.long (q2 &&& (9223372036854775807 : Int64))), .second, .unset, .unset, .unset, .unset, .unset, .unset, .unset, .unset, .unset, .unset, .unset, .unset]) rfl kt) ?_
  show Goes p e below s _ _ _ (s₁.setTop (mkF m 7 #[.val (.long q1), .second, .val (.long q2), .second, .val (.long q3), .second, .val (.long (q2 &&& (9223372036854775807 : Int64))), .second, .unset, .unset, .unset, .unset, .unset, .unset, .unset, .unset, .unset, .unset, .unset, .unset] []))
  refine Goes.pre (fun t kt => XS.lload X0.here hx rfl (hb hby at_7) rfl kt) ?_
  show Goes p e below s _ _ _ (s₁.setTop (mkF m 9 #[.val (.long q1), .second, .val (.long q2), .second, .val (.long q3), .second, .val (.long (q2 &&& (9223372036854775807 : Int64))), .second, .unset, .unset, .unset, .unset, .unset, .unset, .unset, .unset, .unset, .unset, .unset, .unset] [(.long (q2 &&& (9223372036854775807 : Int64)))]))
  refine Goes.pre (fun t kt => XS.lconst X0.here hx rfl (hb hby at_9) kt) ?_
  show Goes p e below s _ _ _ (s₁.setTop (mkF m 10 #[.val (.long q1), .second, .val (.long q2), .second, .val (.long q3), .second, .val (.long (q2 &&& (9223372036854775807 : Int64))), .second, .unset, .unset, .unset, .unset, .unset, .unset, .unset, .unset, .unset, .unset, .unset, .unset] [(.long (0 : Int64)), (.long (q2 &&& (9223372036854775807 : Int64)))]))
  refine Goes.pre (fun t kt => XS.lcmp X0.here hx rfl (hb hby at_10) rfl kt) ?_
  show Goes p e below s _ _ _ (s₁.setTop (mkF m 11 #[.val (.long q1), .second, .val (.long q2), .second, .val (.long q3), .second, .val (.long (q2 &&& (9223372036854775807 : Int64))), .second, .unset, .unset, .unset, .unset, .unset, .unset, .unset, .unset, .unset, .unset, .unset, .unset] [(.int (lcmpW (q2 &&& (9223372036854775807 : Int64)) (0 : Int64)))]))
  by_cases hc11 : (q2 &&& (9223372036854775807 : Int64)) = (0 : Int64)
  · refine Goes.pre (fun t kt => XS.ifNo X0.here hx rfl (hb hby at_11) rfl (Jvm.Free.XT.i0_ne_f ((lw_eq _ _).mpr hc11)) kt) ?_
    show Goes p e below s _ _ _ (s₁.setTop (mkF m 14 #[.val (.long q1), .second, .val (.long q2), .second, .val (.long q3), .second, .val (.long (q2 &&& (9223372036854775807 : Int64))), .second, .unset, .unset, .unset, .unset, .unset, .unset, .unset, .unset, .unset, .unset, .unset, .unset] []))
    refine Goes.pre (fun t kt => XS.iconst X0.here hx rfl (hb hby at_14) kt) ?_
    show Goes p e below s _ _ _ (s₁.setTop (mkF m 15 #[.val (.long q1), .second, .val (.long q2), .second, .val (.long q3), .second, .val (.long (q2 &&& (9223372036854775807 : Int64))), .second, .unset, .unset, .unset, .unset, .unset, .unset, .unset, .unset, .unset, .unset, .unset, .unset] [(.int (1 : Int32))]))
    refine Goes.ret X0 (some (.int (1 : Int32))) (fun h => by rw [Bd.returns] at h; cases h) (BodyLoose.notSynchronized Bd) (by decide) (by decide) (fun fs hr => retN X0 hx (t := .boolean) Bd.returns (by simp) (hb hby at_15) hr) ?_
    show Q_rm0 Z q1 q2 q3 h0 n0 _ s₁.heap _
    rw [e0]
    exact ⟨rfl, N0⟩
  · refine Goes.pre (fun t kt => XS.ifYes X0.here hx rfl (pc0 := 11) (pc' := 16) rfl (hb hby at_11) rfl (Jvm.Free.XT.i0_ne_t ((not_congr (lw_eq _ _)).mpr hc11)) (by decide) (by decide) kt) ?_
    show Goes p e below s _ _ _ (s₁.setTop (mkF m 16 #[.val (.long q1), .second, .val (.long q2), .second, .val (.long q3), .second, .val (.long (q2 &&& (9223372036854775807 : Int64))), .second, .unset, .unset, .unset, .unset, .unset, .unset, .unset, .unset, .unset, .unset, .unset, .unset] []))
    refine Goes.pre (fun t kt => XS.lload X0.here hx rfl (hb hby at_16) rfl kt) ?_
    show Goes p e below s _ _ _ (s₁.setTop (mkF m 18 #[.val (.long q1), .second, .val (.long q2), .second, .val (.long q3), .second, .val (.long (q2 &&& (9223372036854775807 : Int64))), .second, .unset, .unset, .unset, .unset, .unset, .unset, .unset, .unset, .unset, .unset, .unset, .unset] [(.long q3)]))
    refine Goes.pre (X0.ldc2Long hx hown (mvT hZ (hw _ (List.mem_of_getElem? (i := 0) rfl))) (g := (mkF m 18 #[.val (.long q1), .second, .val (.long q2), .second, .val (.long q3), .second, .val (.long (q2 &&& (9223372036854775807 : Int64))), .second, .unset, .unset, .unset, .unset, .unset, .unset, .unset, .unset, .unset, .unset, .unset, .unset] [(.long q3)])) rfl (hb hby at_18)) ?_
    show Goes p e below s _ _ _ (s₁.setTop (mkF m 21 #[.val (.long q1), .second, .val (.long q2), .second, .val (.long q3), .second, .val (.long (q2 &&& (9223372036854775807 : Int64))), .second, .unset, .unset, .unset, .unset, .unset, .unset, .unset, .unset, .unset, .unset, .unset, .unset] [(.long (9223372036854775807 : Int64)), (.long q3)]))
    refine Goes.pre (fun t kt => XS.land X0.here hx rfl (hb hby at_21) rfl kt) ?_
    show Goes p e below s _ _ _ (s₁.setTop (mkF m 22 #[.val (.long q1), .second, .val (.long q2), .second, .val (.long q3), .second, .val (.long (q2 &&& (9223372036854775807 : Int64))), .second, .unset, .unset, .unset, .unset, .unset, .unset, .unset, .unset, .unset, .unset, .unset, .unset] [(.long (q3 &&& (9223372036854775807 : Int64)))]))
    refine Goes.pre (fun t kt => XS.lstore X0.here hx rfl (hb hby at_22) rfl (l' := #[.val (.long q1), .second, .val (.long q2), .second, .val (.long q3), .second, .val (.long (q2 &&& (9223372036854775807 : Int64))), .second, .val (.long (q3 &&& (9223372036854775807 : Int64))), .second, .unset, .unset, .unset, .unset, .unset, .unset, .unset, .unset, .unset, .unset]) rfl kt) ?_
    show Goes p e below s _ _ _ (s₁.setTop (mkF m 24 #[.val (.long q1), .second, .val (.long q2), .second, .val (.long q3), .second, .val (.long (q2 &&& (9223372036854775807 : Int64))), .second, .val (.long (q3 &&& (9223372036854775807 : Int64))), .second, .unset, .unset, .unset, .unset, .unset, .unset, .unset, .unset, .unset, .unset] []))
    refine Goes.pre (fun t kt => XS.lloadN X0.here hx rfl (hb hby at_24) rfl kt) ?_
    show Goes p e below s _ _ _ (s₁.setTop (mkF m 25 #[.val (.long q1), .second, .val (.long q2), .second, .val (.long q3), .second, .val (.long (q2 &&& (9223372036854775807 : Int64))), .second, .val (.long (q3 &&& (9223372036854775807 : Int64))), .second, .unset, .unset, .unset, .unset, .unset, .unset, .unset, .unset, .unset, .unset] [(.long q1)]))
    refine Goes.pre (fun t kt => XS.lload X0.here hx rfl (hb hby at_25) rfl kt) ?_
    show Goes p e below s _ _ _ (s₁.setTop (mkF m 27 #[.val (.long q1), .second, .val (.long q2), .second, .val (.long q3), .second, .val (.long (q2 &&& (9223372036854775807 : Int64))), .second, .val (.long (q3 &&& (9223372036854775807 : Int64))), .second, .unset, .unset, .unset, .unset, .unset, .unset, .unset, .unset, .unset, .unset] [(.long (q3 &&& (9223372036854775807 : Int64))), (.long q1)]))
    refine Goes.pre (fun t kt => XS.ladd X0.here hx rfl (hb hby at_27) rfl kt) ?_
    show Goes p e below s _ _ _ (s₁.setTop (mkF m 28 #[.val (.long q1), .second, .val (.long q2), .second, .val (.long q3), .second, .val (.long (q2 &&& (9223372036854775807 : Int64))), .second, .val (.long (q3 &&& (9223372036854775807 : Int64))), .second, .unset, .unset, .unset, .unset, .unset, .unset, .unset, .unset, .unset, .unset] [(.long (q1 + (q3 &&& (9223372036854775807 : Int64))))]))
    refine Goes.pre (fun t kt => XS.lstore X0.here hx rfl (hb hby at_28) rfl (l' := #[.val (.long q1), .second, .val (.long q2), .second, .val (.long q3), .second, .val (.long (q2 &&& (9223372036854775807 : Int64))), .second, .val (.long (q3 &&& (9223372036854775807 : Int64))), .second, .val (.long (q1 + (q3 &&& (9223372036854775807 : Int64)))), .second, .unset, .unset, .unset, .unset, .unset, .unset, .unset, .unset]) rfl kt) ?_
    show Goes p e below s _ _ _ (s₁.setTop (mkF m 30 #[.val (.long q1), .second, .val (.long q2), .second, .val (.long q3), .second, .val (.long (q2 &&& (9223372036854775807 : Int64))), .second, .val (.long (q3 &&& (9223372036854775807 : Int64))), .second, .val (.long (q1 + (q3 &&& (9223372036854775807 : Int64)))), .second, .unset, .unset, .unset, .unset, .unset, .unset, .unset, .unset] []))
    refine Goes.pre (fun t kt => XS.lloadN X0.here hx rfl (hb hby at_30) rfl kt) ?_
    show Goes p e below s _ _ _ (s₁.setTop (mkF m 31 #[.val (.long q1), .second, .val (.long q2), .second, .val (.long q3), .second, .val (.long (q2 &&& (9223372036854775807 : Int64))), .second, .val (.long (q3 &&& (9223372036854775807 : Int64))), .second, .val (.long (q1 + (q3 &&& (9223372036854775807 : Int64)))), .second, .unset, .unset, .unset, .unset, .unset, .unset, .unset, .unset] [(.long q1)]))
    refine Goes.pre (fun t kt => XS.lload X0.here hx rfl (hb hby at_31) rfl kt) ?_
    show Goes p e below s _ _ _ (s₁.setTop (mkF m 33 #[.val (.long q1), .second, .val (.long q2), .second, .val (.long q3), .second, .val (.long (q2 &&& (9223372036854775807 : Int64))), .second, .val (.long (q3 &&& (9223372036854775807 : Int64))), .second, .val (.long (q1 + (q3 &&& (9223372036854775807 : Int64)))), .second, .unset, .unset, .unset, .unset, .unset, .unset, .unset, .unset] [(.long (q2 &&& (9223372036854775807 : Int64))), (.long q1)]))
    refine Goes.pre (fun t kt => XS.lload X0.here hx rfl (hb hby at_33) rfl kt) ?_
    show Goes p e below s _ _ _ (s₁.setTop (mkF m 35 #[.val (.long q1), .second, .val (.long q2), .second, .val (.long q3), .second, .val (.long (q2 &&& (9223372036854775807 : Int64))), .second, .val (.long (q3 &&& (9223372036854775807 : Int64))), .second, .val (.long (q1 + (q3 &&& (9223372036854775807 : Int64)))), .second, .unset, .unset, .unset, .unset, .unset, .unset, .unset, .unset] [(.long (q1 + (q3 &&& (9223372036854775807 : Int64)))), (.long (q2 &&& (9223372036854775807 : Int64))), (.long q1)]))
    obtain ⟨_, _, ⟨T1, L1, k1, n1⟩, -, X1, ⟨Lc1, hQ1, l1, y1, z1⟩, st1⟩ := Jvm.LawKit.callS X0 hx (y := (⟨"com/example/libshed/libshed/limit/Windows", "endAfter", "(JJJ)J"⟩ : MethodName)) hown (mvT hZ (hw _ (List.mem_of_getElem? (i := 1) rfl))) (mvT hZ (hw _ (List.mem_of_getElem? (i := 2) rfl))) (mvT hZ (hw _ (List.mem_of_getElem? (i := 3) rfl))) (mvT hZ (hw _ (List.mem_of_getElem? (i := 4) rfl))) (by decide) (backOf (W := 0) (rm1 l Z a0 hw [] q1 (q2 &&& (9223372036854775807 : Int64)) (q1 + (q3 &&& (9223372036854775807 : Int64))) h0 n0 Z0 (hc11)) hZ (hw _ (List.mem_of_getElem? (i := 4) rfl)) (hw _ (List.mem_of_getElem? (i := 3) rfl)) (by decide) (by decide)) (g := (mkF m 35 #[.val (.long q1), .second, .val (.long q2), .second, .val (.long q3), .second, .val (.long (q2 &&& (9223372036854775807 : Int64))), .second, .val (.long (q3 &&& (9223372036854775807 : Int64))), .second, .val (.long (q1 + (q3 &&& (9223372036854775807 : Int64)))), .second, .unset, .unset, .unset, .unset, .unset, .unset, .unset, .unset] [(.long (q1 + (q3 &&& (9223372036854775807 : Int64)))), (.long (q2 &&& (9223372036854775807 : Int64))), (.long q1)])) rfl (by rw [hml]; rfl) (argsL := [(.long q1), (.long (q2 &&& (9223372036854775807 : Int64))), (.long (q1 + (q3 &&& (9223372036854775807 : Int64))))]) (rest := []) (lenOf pd_1 rfl) rfl (by show 2 * 0 + _ ≤ _; exact Nat.le_of_eq rfl) (hb hby at_35) (fun _ _ => ⟨rfl, e0, (by decide : 0 + 0 ≤ _), (by decide : 0 + 0 ≤ _)⟩)
    dsimp only [Pt.U, Pt.locs, Pt.cells, Pt.slots] at X1 l1 y1 z1 st1 hQ1
    subst l1 y1 z1
    obtain ⟨rfl, Nq1, eq1⟩ := hQ1
    refine Goes.pre st1 ?_
    have N1 := Fr.app N0 Nq1
    show Goes p e below s _ _ _ (T1.setTop (mkF m 38 #[.val (.long q1), .second, .val (.long q2), .second, .val (.long q3), .second, .val (.long (q2 &&& (9223372036854775807 : Int64))), .second, .val (.long (q3 &&& (9223372036854775807 : Int64))), .second, .val (.long (q1 + (q3 &&& (9223372036854775807 : Int64)))), .second, .unset, .unset, .unset, .unset, .unset, .unset, .unset, .unset] [(.long (q1 + (((((q1 + (q3 &&& (9223372036854775807 : Int64))) - q1) / (q2 &&& (9223372036854775807 : Int64))) + (1 : Int64)) * (q2 &&& (9223372036854775807 : Int64)))))]))
    refine Goes.pre (fun t kt => XS.lstore X1.here hx rfl (hb hby at_38) rfl (l' := #[.val (.long q1), .second, .val (.long q2), .second, .val (.long q3), .second, .val (.long (q2 &&& (9223372036854775807 : Int64))), .second, .val (.long (q3 &&& (9223372036854775807 : Int64))), .second, .val (.long (q1 + (q3 &&& (9223372036854775807 : Int64)))), .second, .val (.long (q1 + (((((q1 + (q3 &&& (9223372036854775807 : Int64))) - q1) / (q2 &&& (9223372036854775807 : Int64))) + (1 : Int64)) * (q2 &&& (9223372036854775807 : Int64))))), .second, .unset, .unset, .unset, .unset, .unset, .unset]) rfl kt) ?_
    show Goes p e below s _ _ _ (T1.setTop (mkF m 40 #[.val (.long q1), .second, .val (.long q2), .second, .val (.long q3), .second, .val (.long (q2 &&& (9223372036854775807 : Int64))), .second, .val (.long (q3 &&& (9223372036854775807 : Int64))), .second, .val (.long (q1 + (q3 &&& (9223372036854775807 : Int64)))), .second, .val (.long (q1 + (((((q1 + (q3 &&& (9223372036854775807 : Int64))) - q1) / (q2 &&& (9223372036854775807 : Int64))) + (1 : Int64)) * (q2 &&& (9223372036854775807 : Int64))))), .second, .unset, .unset, .unset, .unset, .unset, .unset] []))
    refine Goes.pre (fun t kt => XS.lload X1.here hx rfl (hb hby at_40) rfl kt) ?_
    show Goes p e below s _ _ _ (T1.setTop (mkF m 42 #[.val (.long q1), .second, .val (.long q2), .second, .val (.long q3), .second, .val (.long (q2 &&& (9223372036854775807 : Int64))), .second, .val (.long (q3 &&& (9223372036854775807 : Int64))), .second, .val (.long (q1 + (q3 &&& (9223372036854775807 : Int64)))), .second, .val (.long (q1 + (((((q1 + (q3 &&& (9223372036854775807 : Int64))) - q1) / (q2 &&& (9223372036854775807 : Int64))) + (1 : Int64)) * (q2 &&& (9223372036854775807 : Int64))))), .second, .unset, .unset, .unset, .unset, .unset, .unset] [(.long (q1 + (((((q1 + (q3 &&& (9223372036854775807 : Int64))) - q1) / (q2 &&& (9223372036854775807 : Int64))) + (1 : Int64)) * (q2 &&& (9223372036854775807 : Int64)))))]))
    refine Goes.pre (fun t kt => XS.lload X1.here hx rfl (hb hby at_42) rfl kt) ?_
    show Goes p e below s _ _ _ (T1.setTop (mkF m 44 #[.val (.long q1), .second, .val (.long q2), .second, .val (.long q3), .second, .val (.long (q2 &&& (9223372036854775807 : Int64))), .second, .val (.long (q3 &&& (9223372036854775807 : Int64))), .second, .val (.long (q1 + (q3 &&& (9223372036854775807 : Int64)))), .second, .val (.long (q1 + (((((q1 + (q3 &&& (9223372036854775807 : Int64))) - q1) / (q2 &&& (9223372036854775807 : Int64))) + (1 : Int64)) * (q2 &&& (9223372036854775807 : Int64))))), .second, .unset, .unset, .unset, .unset, .unset, .unset] [(.long (q1 + (q3 &&& (9223372036854775807 : Int64)))), (.long (q1 + (((((q1 + (q3 &&& (9223372036854775807 : Int64))) - q1) / (q2 &&& (9223372036854775807 : Int64))) + (1 : Int64)) * (q2 &&& (9223372036854775807 : Int64)))))]))
    refine Goes.pre (fun t kt => XS.lsub X1.here hx rfl (hb hby at_44) rfl kt) ?_
    show Goes p e below s _ _ _ (T1.setTop (mkF m 45 #[.val (.long q1), .second, .val (.long q2), .second, .val (.long q3), .second, .val (.long (q2 &&& (9223372036854775807 : Int64))), .second, .val (.long (q3 &&& (9223372036854775807 : Int64))), .second, .val (.long (q1 + (q3 &&& (9223372036854775807 : Int64)))), .second, .val (.long (q1 + (((((q1 + (q3 &&& (9223372036854775807 : Int64))) - q1) / (q2 &&& (9223372036854775807 : Int64))) + (1 : Int64)) * (q2 &&& (9223372036854775807 : Int64))))), .second, .unset, .unset, .unset, .unset, .unset, .unset] [(.long ((q1 + (((((q1 + (q3 &&& (9223372036854775807 : Int64))) - q1) / (q2 &&& (9223372036854775807 : Int64))) + (1 : Int64)) * (q2 &&& (9223372036854775807 : Int64)))) - (q1 + (q3 &&& (9223372036854775807 : Int64)))))]))
    refine Goes.pre (fun t kt => XS.lstore X1.here hx rfl (hb hby at_45) rfl (l' := #[.val (.long q1), .second, .val (.long q2), .second, .val (.long q3), .second, .val (.long (q2 &&& (9223372036854775807 : Int64))), .second, .val (.long (q3 &&& (9223372036854775807 : Int64))), .second, .val (.long (q1 + (q3 &&& (9223372036854775807 : Int64)))), .second, .val (.long (q1 + (((((q1 + (q3 &&& (9223372036854775807 : Int64))) - q1) / (q2 &&& (9223372036854775807 : Int64))) + (1 : Int64)) * (q2 &&& (9223372036854775807 : Int64))))), .second, .val (.long ((q1 + (((((q1 + (q3 &&& (9223372036854775807 : Int64))) - q1) / (q2 &&& (9223372036854775807 : Int64))) + (1 : Int64)) * (q2 &&& (9223372036854775807 : Int64)))) - (q1 + (q3 &&& (9223372036854775807 : Int64))))), .second, .unset, .unset, .unset, .unset]) rfl kt) ?_
    show Goes p e below s _ _ _ (T1.setTop (mkF m 47 #[.val (.long q1), .second, .val (.long q2), .second, .val (.long q3), .second, .val (.long (q2 &&& (9223372036854775807 : Int64))), .second, .val (.long (q3 &&& (9223372036854775807 : Int64))), .second, .val (.long (q1 + (q3 &&& (9223372036854775807 : Int64)))), .second, .val (.long (q1 + (((((q1 + (q3 &&& (9223372036854775807 : Int64))) - q1) / (q2 &&& (9223372036854775807 : Int64))) + (1 : Int64)) * (q2 &&& (9223372036854775807 : Int64))))), .second, .val (.long ((q1 + (((((q1 + (q3 &&& (9223372036854775807 : Int64))) - q1) / (q2 &&& (9223372036854775807 : Int64))) + (1 : Int64)) * (q2 &&& (9223372036854775807 : Int64)))) - (q1 + (q3 &&& (9223372036854775807 : Int64))))), .second, .unset, .unset, .unset, .unset] []))
    refine Goes.pre (fun t kt => XS.lload X1.here hx rfl (hb hby at_47) rfl kt) ?_
    show Goes p e below s _ _ _ (T1.setTop (mkF m 49 #[.val (.long q1), .second, .val (.long q2), .second, .val (.long q3), .second, .val (.long (q2 &&& (9223372036854775807 : Int64))), .second, .val (.long (q3 &&& (9223372036854775807 : Int64))), .second, .val (.long (q1 + (q3 &&& (9223372036854775807 : Int64)))), .second, .val (.long (q1 + (((((q1 + (q3 &&& (9223372036854775807 : Int64))) - q1) / (q2 &&& (9223372036854775807 : Int64))) + (1 : Int64)) * (q2 &&& (9223372036854775807 : Int64))))), .second, .val (.long ((q1 + (((((q1 + (q3 &&& (9223372036854775807 : Int64))) - q1) / (q2 &&& (9223372036854775807 : Int64))) + (1 : Int64)) * (q2 &&& (9223372036854775807 : Int64)))) - (q1 + (q3 &&& (9223372036854775807 : Int64))))), .second, .unset, .unset, .unset, .unset] [(.long (q3 &&& (9223372036854775807 : Int64)))]))
    refine Goes.pre (fun t kt => XS.lload X1.here hx rfl (hb hby at_49) rfl kt) ?_
    show Goes p e below s _ _ _ (T1.setTop (mkF m 51 #[.val (.long q1), .second, .val (.long q2), .second, .val (.long q3), .second, .val (.long (q2 &&& (9223372036854775807 : Int64))), .second, .val (.long (q3 &&& (9223372036854775807 : Int64))), .second, .val (.long (q1 + (q3 &&& (9223372036854775807 : Int64)))), .second, .val (.long (q1 + (((((q1 + (q3 &&& (9223372036854775807 : Int64))) - q1) / (q2 &&& (9223372036854775807 : Int64))) + (1 : Int64)) * (q2 &&& (9223372036854775807 : Int64))))), .second, .val (.long ((q1 + (((((q1 + (q3 &&& (9223372036854775807 : Int64))) - q1) / (q2 &&& (9223372036854775807 : Int64))) + (1 : Int64)) * (q2 &&& (9223372036854775807 : Int64)))) - (q1 + (q3 &&& (9223372036854775807 : Int64))))), .second, .unset, .unset, .unset, .unset] [(.long (q2 &&& (9223372036854775807 : Int64))), (.long (q3 &&& (9223372036854775807 : Int64)))]))
    refine Goes.pre (fun t kt => XS.lrem X1.here hx rfl (hb hby at_51) rfl hc11 kt) ?_
    show Goes p e below s _ _ _ (T1.setTop (mkF m 52 #[.val (.long q1), .second, .val (.long q2), .second, .val (.long q3), .second, .val (.long (q2 &&& (9223372036854775807 : Int64))), .second, .val (.long (q3 &&& (9223372036854775807 : Int64))), .second, .val (.long (q1 + (q3 &&& (9223372036854775807 : Int64)))), .second, .val (.long (q1 + (((((q1 + (q3 &&& (9223372036854775807 : Int64))) - q1) / (q2 &&& (9223372036854775807 : Int64))) + (1 : Int64)) * (q2 &&& (9223372036854775807 : Int64))))), .second, .val (.long ((q1 + (((((q1 + (q3 &&& (9223372036854775807 : Int64))) - q1) / (q2 &&& (9223372036854775807 : Int64))) + (1 : Int64)) * (q2 &&& (9223372036854775807 : Int64)))) - (q1 + (q3 &&& (9223372036854775807 : Int64))))), .second, .unset, .unset, .unset, .unset] [(.long ((q3 &&& (9223372036854775807 : Int64)) - ((q3 &&& (9223372036854775807 : Int64)) / (q2 &&& (9223372036854775807 : Int64))) * (q2 &&& (9223372036854775807 : Int64))))]))
    refine Goes.pre (fun t kt => XS.lstore X1.here hx rfl (hb hby at_52) rfl (l' := #[.val (.long q1), .second, .val (.long q2), .second, .val (.long q3), .second, .val (.long (q2 &&& (9223372036854775807 : Int64))), .second, .val (.long (q3 &&& (9223372036854775807 : Int64))), .second, .val (.long (q1 + (q3 &&& (9223372036854775807 : Int64)))), .second, .val (.long (q1 + (((((q1 + (q3 &&& (9223372036854775807 : Int64))) - q1) / (q2 &&& (9223372036854775807 : Int64))) + (1 : Int64)) * (q2 &&& (9223372036854775807 : Int64))))), .second, .val (.long ((q1 + (((((q1 + (q3 &&& (9223372036854775807 : Int64))) - q1) / (q2 &&& (9223372036854775807 : Int64))) + (1 : Int64)) * (q2 &&& (9223372036854775807 : Int64)))) - (q1 + (q3 &&& (9223372036854775807 : Int64))))), .second, .val (.long ((q3 &&& (9223372036854775807 : Int64)) - ((q3 &&& (9223372036854775807 : Int64)) / (q2 &&& (9223372036854775807 : Int64))) * (q2 &&& (9223372036854775807 : Int64)))), .second, .unset, .unset]) rfl kt) ?_
    show Goes p e below s _ _ _ (T1.setTop (mkF m 54 #[.val (.long q1), .second, .val (.long q2), .second, .val (.long q3), .second, .val (.long (q2 &&& (9223372036854775807 : Int64))), .second, .val (.long (q3 &&& (9223372036854775807 : Int64))), .second, .val (.long (q1 + (q3 &&& (9223372036854775807 : Int64)))), .second, .val (.long (q1 + (((((q1 + (q3 &&& (9223372036854775807 : Int64))) - q1) / (q2 &&& (9223372036854775807 : Int64))) + (1 : Int64)) * (q2 &&& (9223372036854775807 : Int64))))), .second, .val (.long ((q1 + (((((q1 + (q3 &&& (9223372036854775807 : Int64))) - q1) / (q2 &&& (9223372036854775807 : Int64))) + (1 : Int64)) * (q2 &&& (9223372036854775807 : Int64)))) - (q1 + (q3 &&& (9223372036854775807 : Int64))))), .second, .val (.long ((q3 &&& (9223372036854775807 : Int64)) - ((q3 &&& (9223372036854775807 : Int64)) / (q2 &&& (9223372036854775807 : Int64))) * (q2 &&& (9223372036854775807 : Int64)))), .second, .unset, .unset] []))
    refine Goes.pre (fun t kt => XS.lload X1.here hx rfl (hb hby at_54) rfl kt) ?_
    show Goes p e below s _ _ _ (T1.setTop (mkF m 56 #[.val (.long q1), .second, .val (.long q2), .second, .val (.long q3), .second, .val (.long (q2 &&& (9223372036854775807 : Int64))), .second, .val (.long (q3 &&& (9223372036854775807 : Int64))), .second, .val (.long (q1 + (q3 &&& (9223372036854775807 : Int64)))), .second, .val (.long (q1 + (((((q1 + (q3 &&& (9223372036854775807 : Int64))) - q1) / (q2 &&& (9223372036854775807 : Int64))) + (1 : Int64)) * (q2 &&& (9223372036854775807 : Int64))))), .second, .val (.long ((q1 + (((((q1 + (q3 &&& (9223372036854775807 : Int64))) - q1) / (q2 &&& (9223372036854775807 : Int64))) + (1 : Int64)) * (q2 &&& (9223372036854775807 : Int64)))) - (q1 + (q3 &&& (9223372036854775807 : Int64))))), .second, .val (.long ((q3 &&& (9223372036854775807 : Int64)) - ((q3 &&& (9223372036854775807 : Int64)) / (q2 &&& (9223372036854775807 : Int64))) * (q2 &&& (9223372036854775807 : Int64)))), .second, .unset, .unset] [(.long ((q1 + (((((q1 + (q3 &&& (9223372036854775807 : Int64))) - q1) / (q2 &&& (9223372036854775807 : Int64))) + (1 : Int64)) * (q2 &&& (9223372036854775807 : Int64)))) - (q1 + (q3 &&& (9223372036854775807 : Int64)))))]))
    refine Goes.pre (fun t kt => XS.lconst X1.here hx rfl (hb hby at_56) kt) ?_
    show Goes p e below s _ _ _ (T1.setTop (mkF m 57 #[.val (.long q1), .second, .val (.long q2), .second, .val (.long q3), .second, .val (.long (q2 &&& (9223372036854775807 : Int64))), .second, .val (.long (q3 &&& (9223372036854775807 : Int64))), .second, .val (.long (q1 + (q3 &&& (9223372036854775807 : Int64)))), .second, .val (.long (q1 + (((((q1 + (q3 &&& (9223372036854775807 : Int64))) - q1) / (q2 &&& (9223372036854775807 : Int64))) + (1 : Int64)) * (q2 &&& (9223372036854775807 : Int64))))), .second, .val (.long ((q1 + (((((q1 + (q3 &&& (9223372036854775807 : Int64))) - q1) / (q2 &&& (9223372036854775807 : Int64))) + (1 : Int64)) * (q2 &&& (9223372036854775807 : Int64)))) - (q1 + (q3 &&& (9223372036854775807 : Int64))))), .second, .val (.long ((q3 &&& (9223372036854775807 : Int64)) - ((q3 &&& (9223372036854775807 : Int64)) / (q2 &&& (9223372036854775807 : Int64))) * (q2 &&& (9223372036854775807 : Int64)))), .second, .unset, .unset] [(.long (0 : Int64)), (.long ((q1 + (((((q1 + (q3 &&& (9223372036854775807 : Int64))) - q1) / (q2 &&& (9223372036854775807 : Int64))) + (1 : Int64)) * (q2 &&& (9223372036854775807 : Int64)))) - (q1 + (q3 &&& (9223372036854775807 : Int64)))))]))
    refine Goes.pre (fun t kt => XS.lcmp X1.here hx rfl (hb hby at_57) rfl kt) ?_
    show Goes p e below s _ _ _ (T1.setTop (mkF m 58 #[.val (.long q1), .second, .val (.long q2), .second, .val (.long q3), .second, .val (.long (q2 &&& (9223372036854775807 : Int64))), .second, .val (.long (q3 &&& (9223372036854775807 : Int64))), .second, .val (.long (q1 + (q3 &&& (9223372036854775807 : Int64)))), .second, .val (.long (q1 + (((((q1 + (q3 &&& (9223372036854775807 : Int64))) - q1) / (q2 &&& (9223372036854775807 : Int64))) + (1 : Int64)) * (q2 &&& (9223372036854775807 : Int64))))), .second, .val (.long ((q1 + (((((q1 + (q3 &&& (9223372036854775807 : Int64))) - q1) / (q2 &&& (9223372036854775807 : Int64))) + (1 : Int64)) * (q2 &&& (9223372036854775807 : Int64)))) - (q1 + (q3 &&& (9223372036854775807 : Int64))))), .second, .val (.long ((q3 &&& (9223372036854775807 : Int64)) - ((q3 &&& (9223372036854775807 : Int64)) / (q2 &&& (9223372036854775807 : Int64))) * (q2 &&& (9223372036854775807 : Int64)))), .second, .unset, .unset] [(.int (lcmpW ((q1 + (((((q1 + (q3 &&& (9223372036854775807 : Int64))) - q1) / (q2 &&& (9223372036854775807 : Int64))) + (1 : Int64)) * (q2 &&& (9223372036854775807 : Int64)))) - (q1 + (q3 &&& (9223372036854775807 : Int64)))) (0 : Int64)))]))
    refine Goes.pre (fun t kt => XS.ifNo X1.here hx rfl (hb hby at_58) rfl (Jvm.Free.XT.i0_le_f ((lw_gt _ _).mpr (by rw [own_d]; exact (own_b (q3 &&& (9223372036854775807 : Int64)) (q2 &&& (9223372036854775807 : Int64)) (own_m q3) (own_m q2) hc11).1))) kt) ?_
    show Goes p e below s _ _ _ (T1.setTop (mkF m 61 #[.val (.long q1), .second, .val (.long q2), .second, .val (.long q3), .second, .val (.long (q2 &&& (9223372036854775807 : Int64))), .second, .val (.long (q3 &&& (9223372036854775807 : Int64))), .second, .val (.long (q1 + (q3 &&& (9223372036854775807 : Int64)))), .second, .val (.long (q1 + (((((q1 + (q3 &&& (9223372036854775807 : Int64))) - q1) / (q2 &&& (9223372036854775807 : Int64))) + (1 : Int64)) * (q2 &&& (9223372036854775807 : Int64))))), .second, .val (.long ((q1 + (((((q1 + (q3 &&& (9223372036854775807 : Int64))) - q1) / (q2 &&& (9223372036854775807 : Int64))) + (1 : Int64)) * (q2 &&& (9223372036854775807 : Int64)))) - (q1 + (q3 &&& (9223372036854775807 : Int64))))), .second, .val (.long ((q3 &&& (9223372036854775807 : Int64)) - ((q3 &&& (9223372036854775807 : Int64)) / (q2 &&& (9223372036854775807 : Int64))) * (q2 &&& (9223372036854775807 : Int64)))), .second, .unset, .unset] []))
    refine Goes.pre (fun t kt => XS.lload X1.here hx rfl (hb hby at_61) rfl kt) ?_
    show Goes p e below s _ _ _ (T1.setTop (mkF m 63 #[.val (.long q1), .second, .val (.long q2), .second, .val (.long q3), .second, .val (.long (q2 &&& (9223372036854775807 : Int64))), .second, .val (.long (q3 &&& (9223372036854775807 : Int64))), .second, .val (.long (q1 + (q3 &&& (9223372036854775807 : Int64)))), .second, .val (.long (q1 + (((((q1 + (q3 &&& (9223372036854775807 : Int64))) - q1) / (q2 &&& (9223372036854775807 : Int64))) + (1 : Int64)) * (q2 &&& (9223372036854775807 : Int64))))), .second, .val (.long ((q1 + (((((q1 + (q3 &&& (9223372036854775807 : Int64))) - q1) / (q2 &&& (9223372036854775807 : Int64))) + (1 : Int64)) * (q2 &&& (9223372036854775807 : Int64)))) - (q1 + (q3 &&& (9223372036854775807 : Int64))))), .second, .val (.long ((q3 &&& (9223372036854775807 : Int64)) - ((q3 &&& (9223372036854775807 : Int64)) / (q2 &&& (9223372036854775807 : Int64))) * (q2 &&& (9223372036854775807 : Int64)))), .second, .unset, .unset] [(.long ((q1 + (((((q1 + (q3 &&& (9223372036854775807 : Int64))) - q1) / (q2 &&& (9223372036854775807 : Int64))) + (1 : Int64)) * (q2 &&& (9223372036854775807 : Int64)))) - (q1 + (q3 &&& (9223372036854775807 : Int64)))))]))
    refine Goes.pre (fun t kt => XS.lload X1.here hx rfl (hb hby at_63) rfl kt) ?_
    show Goes p e below s _ _ _ (T1.setTop (mkF m 65 #[.val (.long q1), .second, .val (.long q2), .second, .val (.long q3), .second, .val (.long (q2 &&& (9223372036854775807 : Int64))), .second, .val (.long (q3 &&& (9223372036854775807 : Int64))), .second, .val (.long (q1 + (q3 &&& (9223372036854775807 : Int64)))), .second, .val (.long (q1 + (((((q1 + (q3 &&& (9223372036854775807 : Int64))) - q1) / (q2 &&& (9223372036854775807 : Int64))) + (1 : Int64)) * (q2 &&& (9223372036854775807 : Int64))))), .second, .val (.long ((q1 + (((((q1 + (q3 &&& (9223372036854775807 : Int64))) - q1) / (q2 &&& (9223372036854775807 : Int64))) + (1 : Int64)) * (q2 &&& (9223372036854775807 : Int64)))) - (q1 + (q3 &&& (9223372036854775807 : Int64))))), .second, .val (.long ((q3 &&& (9223372036854775807 : Int64)) - ((q3 &&& (9223372036854775807 : Int64)) / (q2 &&& (9223372036854775807 : Int64))) * (q2 &&& (9223372036854775807 : Int64)))), .second, .unset, .unset] [(.long (q2 &&& (9223372036854775807 : Int64))), (.long ((q1 + (((((q1 + (q3 &&& (9223372036854775807 : Int64))) - q1) / (q2 &&& (9223372036854775807 : Int64))) + (1 : Int64)) * (q2 &&& (9223372036854775807 : Int64)))) - (q1 + (q3 &&& (9223372036854775807 : Int64)))))]))
    refine Goes.pre (fun t kt => XS.lcmp X1.here hx rfl (hb hby at_65) rfl kt) ?_
    show Goes p e below s _ _ _ (T1.setTop (mkF m 66 #[.val (.long q1), .second, .val (.long q2), .second, .val (.long q3), .second, .val (.long (q2 &&& (9223372036854775807 : Int64))), .second, .val (.long (q3 &&& (9223372036854775807 : Int64))), .second, .val (.long (q1 + (q3 &&& (9223372036854775807 : Int64)))), .second, .val (.long (q1 + (((((q1 + (q3 &&& (9223372036854775807 : Int64))) - q1) / (q2 &&& (9223372036854775807 : Int64))) + (1 : Int64)) * (q2 &&& (9223372036854775807 : Int64))))), .second, .val (.long ((q1 + (((((q1 + (q3 &&& (9223372036854775807 : Int64))) - q1) / (q2 &&& (9223372036854775807 : Int64))) + (1 : Int64)) * (q2 &&& (9223372036854775807 : Int64)))) - (q1 + (q3 &&& (9223372036854775807 : Int64))))), .second, .val (.long ((q3 &&& (9223372036854775807 : Int64)) - ((q3 &&& (9223372036854775807 : Int64)) / (q2 &&& (9223372036854775807 : Int64))) * (q2 &&& (9223372036854775807 : Int64)))), .second, .unset, .unset] [(.int (lcmpW ((q1 + (((((q1 + (q3 &&& (9223372036854775807 : Int64))) - q1) / (q2 &&& (9223372036854775807 : Int64))) + (1 : Int64)) * (q2 &&& (9223372036854775807 : Int64)))) - (q1 + (q3 &&& (9223372036854775807 : Int64)))) (q2 &&& (9223372036854775807 : Int64))))]))
    refine Goes.pre (fun t kt => XS.ifNo X1.here hx rfl (hb hby at_66) rfl (Jvm.Free.XT.i0_gt_f ((not_congr (lw_gt _ _)).mpr (by rw [own_d]; exact (own_b (q3 &&& (9223372036854775807 : Int64)) (q2 &&& (9223372036854775807 : Int64)) (own_m q3) (own_m q2) hc11).2))) kt) ?_
    show Goes p e below s _ _ _ (T1.setTop (mkF m 69 #[.val (.long q1), .second, .val (.long q2), .second, .val (.long q3), .second, .val (.long (q2 &&& (9223372036854775807 : Int64))), .second, .val (.long (q3 &&& (9223372036854775807 : Int64))), .second, .val (.long (q1 + (q3 &&& (9223372036854775807 : Int64)))), .second, .val (.long (q1 + (((((q1 + (q3 &&& (9223372036854775807 : Int64))) - q1) / (q2 &&& (9223372036854775807 : Int64))) + (1 : Int64)) * (q2 &&& (9223372036854775807 : Int64))))), .second, .val (.long ((q1 + (((((q1 + (q3 &&& (9223372036854775807 : Int64))) - q1) / (q2 &&& (9223372036854775807 : Int64))) + (1 : Int64)) * (q2 &&& (9223372036854775807 : Int64)))) - (q1 + (q3 &&& (9223372036854775807 : Int64))))), .second, .val (.long ((q3 &&& (9223372036854775807 : Int64)) - ((q3 &&& (9223372036854775807 : Int64)) / (q2 &&& (9223372036854775807 : Int64))) * (q2 &&& (9223372036854775807 : Int64)))), .second, .unset, .unset] []))
    refine Goes.pre (fun t kt => XS.iconst X1.here hx rfl (hb hby at_69) kt) ?_
    show Goes p e below s _ _ _ (T1.setTop (mkF m 70 #[.val (.long q1), .second, .val (.long q2), .second, .val (.long q3), .second, .val (.long (q2 &&& (9223372036854775807 : Int64))), .second, .val (.long (q3 &&& (9223372036854775807 : Int64))), .second, .val (.long (q1 + (q3 &&& (9223372036854775807 : Int64)))), .second, .val (.long (q1 + (((((q1 + (q3 &&& (9223372036854775807 : Int64))) - q1) / (q2 &&& (9223372036854775807 : Int64))) + (1 : Int64)) * (q2 &&& (9223372036854775807 : Int64))))), .second, .val (.long ((q1 + (((((q1 + (q3 &&& (9223372036854775807 : Int64))) - q1) / (q2 &&& (9223372036854775807 : Int64))) + (1 : Int64)) * (q2 &&& (9223372036854775807 : Int64)))) - (q1 + (q3 &&& (9223372036854775807 : Int64))))), .second, .val (.long ((q3 &&& (9223372036854775807 : Int64)) - ((q3 &&& (9223372036854775807 : Int64)) / (q2 &&& (9223372036854775807 : Int64))) * (q2 &&& (9223372036854775807 : Int64)))), .second, .unset, .unset] [(.int (1 : Int32))]))
    refine Goes.pre (fun t kt => XS.goto X1.here hx rfl (pc0 := 70) (pc' := 74) rfl (hb hby at_70) (by decide) (by decide) kt) ?_
    show Goes p e below s _ _ _ (T1.setTop (mkF m 74 #[.val (.long q1), .second, .val (.long q2), .second, .val (.long q3), .second, .val (.long (q2 &&& (9223372036854775807 : Int64))), .second, .val (.long (q3 &&& (9223372036854775807 : Int64))), .second, .val (.long (q1 + (q3 &&& (9223372036854775807 : Int64)))), .second, .val (.long (q1 + (((((q1 + (q3 &&& (9223372036854775807 : Int64))) - q1) / (q2 &&& (9223372036854775807 : Int64))) + (1 : Int64)) * (q2 &&& (9223372036854775807 : Int64))))), .second, .val (.long ((q1 + (((((q1 + (q3 &&& (9223372036854775807 : Int64))) - q1) / (q2 &&& (9223372036854775807 : Int64))) + (1 : Int64)) * (q2 &&& (9223372036854775807 : Int64)))) - (q1 + (q3 &&& (9223372036854775807 : Int64))))), .second, .val (.long ((q3 &&& (9223372036854775807 : Int64)) - ((q3 &&& (9223372036854775807 : Int64)) / (q2 &&& (9223372036854775807 : Int64))) * (q2 &&& (9223372036854775807 : Int64)))), .second, .unset, .unset] [(.int (1 : Int32))]))
    refine Goes.pre (fun t kt => XS.istore X1.here hx rfl (hb hby at_74) rfl (l' := #[.val (.long q1), .second, .val (.long q2), .second, .val (.long q3), .second, .val (.long (q2 &&& (9223372036854775807 : Int64))), .second, .val (.long (q3 &&& (9223372036854775807 : Int64))), .second, .val (.long (q1 + (q3 &&& (9223372036854775807 : Int64)))), .second, .val (.long (q1 + (((((q1 + (q3 &&& (9223372036854775807 : Int64))) - q1) / (q2 &&& (9223372036854775807 : Int64))) + (1 : Int64)) * (q2 &&& (9223372036854775807 : Int64))))), .second, .val (.long ((q1 + (((((q1 + (q3 &&& (9223372036854775807 : Int64))) - q1) / (q2 &&& (9223372036854775807 : Int64))) + (1 : Int64)) * (q2 &&& (9223372036854775807 : Int64)))) - (q1 + (q3 &&& (9223372036854775807 : Int64))))), .second, .val (.long ((q3 &&& (9223372036854775807 : Int64)) - ((q3 &&& (9223372036854775807 : Int64)) / (q2 &&& (9223372036854775807 : Int64))) * (q2 &&& (9223372036854775807 : Int64)))), .second, .val (.int (1 : Int32)), .unset]) rfl kt) ?_
    show Goes p e below s _ _ _ (T1.setTop (mkF m 76 #[.val (.long q1), .second, .val (.long q2), .second, .val (.long q3), .second, .val (.long (q2 &&& (9223372036854775807 : Int64))), .second, .val (.long (q3 &&& (9223372036854775807 : Int64))), .second, .val (.long (q1 + (q3 &&& (9223372036854775807 : Int64)))), .second, .val (.long (q1 + (((((q1 + (q3 &&& (9223372036854775807 : Int64))) - q1) / (q2 &&& (9223372036854775807 : Int64))) + (1 : Int64)) * (q2 &&& (9223372036854775807 : Int64))))), .second, .val (.long ((q1 + (((((q1 + (q3 &&& (9223372036854775807 : Int64))) - q1) / (q2 &&& (9223372036854775807 : Int64))) + (1 : Int64)) * (q2 &&& (9223372036854775807 : Int64)))) - (q1 + (q3 &&& (9223372036854775807 : Int64))))), .second, .val (.long ((q3 &&& (9223372036854775807 : Int64)) - ((q3 &&& (9223372036854775807 : Int64)) / (q2 &&& (9223372036854775807 : Int64))) * (q2 &&& (9223372036854775807 : Int64)))), .second, .val (.int (1 : Int32)), .unset] []))
    refine Goes.pre (fun t kt => XS.lload X1.here hx rfl (hb hby at_76) rfl kt) ?_
    show Goes p e below s _ _ _ (T1.setTop (mkF m 78 #[.val (.long q1), .second, .val (.long q2), .second, .val (.long q3), .second, .val (.long (q2 &&& (9223372036854775807 : Int64))), .second, .val (.long (q3 &&& (9223372036854775807 : Int64))), .second, .val (.long (q1 + (q3 &&& (9223372036854775807 : Int64)))), .second, .val (.long (q1 + (((((q1 + (q3 &&& (9223372036854775807 : Int64))) - q1) / (q2 &&& (9223372036854775807 : Int64))) + (1 : Int64)) * (q2 &&& (9223372036854775807 : Int64))))), .second, .val (.long ((q1 + (((((q1 + (q3 &&& (9223372036854775807 : Int64))) - q1) / (q2 &&& (9223372036854775807 : Int64))) + (1 : Int64)) * (q2 &&& (9223372036854775807 : Int64)))) - (q1 + (q3 &&& (9223372036854775807 : Int64))))), .second, .val (.long ((q3 &&& (9223372036854775807 : Int64)) - ((q3 &&& (9223372036854775807 : Int64)) / (q2 &&& (9223372036854775807 : Int64))) * (q2 &&& (9223372036854775807 : Int64)))), .second, .val (.int (1 : Int32)), .unset] [(.long ((q1 + (((((q1 + (q3 &&& (9223372036854775807 : Int64))) - q1) / (q2 &&& (9223372036854775807 : Int64))) + (1 : Int64)) * (q2 &&& (9223372036854775807 : Int64)))) - (q1 + (q3 &&& (9223372036854775807 : Int64)))))]))
    refine Goes.pre (fun t kt => XS.lload X1.here hx rfl (hb hby at_78) rfl kt) ?_
    show Goes p e below s _ _ _ (T1.setTop (mkF m 80 #[.val (.long q1), .second, .val (.long q2), .second, .val (.long q3), .second, .val (.long (q2 &&& (9223372036854775807 : Int64))), .second, .val (.long (q3 &&& (9223372036854775807 : Int64))), .second, .val (.long (q1 + (q3 &&& (9223372036854775807 : Int64)))), .second, .val (.long (q1 + (((((q1 + (q3 &&& (9223372036854775807 : Int64))) - q1) / (q2 &&& (9223372036854775807 : Int64))) + (1 : Int64)) * (q2 &&& (9223372036854775807 : Int64))))), .second, .val (.long ((q1 + (((((q1 + (q3 &&& (9223372036854775807 : Int64))) - q1) / (q2 &&& (9223372036854775807 : Int64))) + (1 : Int64)) * (q2 &&& (9223372036854775807 : Int64)))) - (q1 + (q3 &&& (9223372036854775807 : Int64))))), .second, .val (.long ((q3 &&& (9223372036854775807 : Int64)) - ((q3 &&& (9223372036854775807 : Int64)) / (q2 &&& (9223372036854775807 : Int64))) * (q2 &&& (9223372036854775807 : Int64)))), .second, .val (.int (1 : Int32)), .unset] [(.long (q2 &&& (9223372036854775807 : Int64))), (.long ((q1 + (((((q1 + (q3 &&& (9223372036854775807 : Int64))) - q1) / (q2 &&& (9223372036854775807 : Int64))) + (1 : Int64)) * (q2 &&& (9223372036854775807 : Int64)))) - (q1 + (q3 &&& (9223372036854775807 : Int64)))))]))
    refine Goes.pre (fun t kt => XS.lload X1.here hx rfl (hb hby at_80) rfl kt) ?_
    show Goes p e below s _ _ _ (T1.setTop (mkF m 82 #[.val (.long q1), .second, .val (.long q2), .second, .val (.long q3), .second, .val (.long (q2 &&& (9223372036854775807 : Int64))), .second, .val (.long (q3 &&& (9223372036854775807 : Int64))), .second, .val (.long (q1 + (q3 &&& (9223372036854775807 : Int64)))), .second, .val (.long (q1 + (((((q1 + (q3 &&& (9223372036854775807 : Int64))) - q1) / (q2 &&& (9223372036854775807 : Int64))) + (1 : Int64)) * (q2 &&& (9223372036854775807 : Int64))))), .second, .val (.long ((q1 + (((((q1 + (q3 &&& (9223372036854775807 : Int64))) - q1) / (q2 &&& (9223372036854775807 : Int64))) + (1 : Int64)) * (q2 &&& (9223372036854775807 : Int64)))) - (q1 + (q3 &&& (9223372036854775807 : Int64))))), .second, .val (.long ((q3 &&& (9223372036854775807 : Int64)) - ((q3 &&& (9223372036854775807 : Int64)) / (q2 &&& (9223372036854775807 : Int64))) * (q2 &&& (9223372036854775807 : Int64)))), .second, .val (.int (1 : Int32)), .unset] [(.long ((q3 &&& (9223372036854775807 : Int64)) - ((q3 &&& (9223372036854775807 : Int64)) / (q2 &&& (9223372036854775807 : Int64))) * (q2 &&& (9223372036854775807 : Int64)))), (.long (q2 &&& (9223372036854775807 : Int64))), (.long ((q1 + (((((q1 + (q3 &&& (9223372036854775807 : Int64))) - q1) / (q2 &&& (9223372036854775807 : Int64))) + (1 : Int64)) * (q2 &&& (9223372036854775807 : Int64)))) - (q1 + (q3 &&& (9223372036854775807 : Int64)))))]))
    refine Goes.pre (fun t kt => XS.lsub X1.here hx rfl (hb hby at_82) rfl kt) ?_
    show Goes p e below s _ _ _ (T1.setTop (mkF m 83 #[.val (.long q1), .second, .val (.long q2), .second, .val (.long q3), .second, .val (.long (q2 &&& (9223372036854775807 : Int64))), .second, .val (.long (q3 &&& (9223372036854775807 : Int64))), .second, .val (.long (q1 + (q3 &&& (9223372036854775807 : Int64)))), .second, .val (.long (q1 + (((((q1 + (q3 &&& (9223372036854775807 : Int64))) - q1) / (q2 &&& (9223372036854775807 : Int64))) + (1 : Int64)) * (q2 &&& (9223372036854775807 : Int64))))), .second, .val (.long ((q1 + (((((q1 + (q3 &&& (9223372036854775807 : Int64))) - q1) / (q2 &&& (9223372036854775807 : Int64))) + (1 : Int64)) * (q2 &&& (9223372036854775807 : Int64)))) - (q1 + (q3 &&& (9223372036854775807 : Int64))))), .second, .val (.long ((q3 &&& (9223372036854775807 : Int64)) - ((q3 &&& (9223372036854775807 : Int64)) / (q2 &&& (9223372036854775807 : Int64))) * (q2 &&& (9223372036854775807 : Int64)))), .second, .val (.int (1 : Int32)), .unset] [(.long ((q2 &&& (9223372036854775807 : Int64)) - ((q3 &&& (9223372036854775807 : Int64)) - ((q3 &&& (9223372036854775807 : Int64)) / (q2 &&& (9223372036854775807 : Int64))) * (q2 &&& (9223372036854775807 : Int64))))), (.long ((q1 + (((((q1 + (q3 &&& (9223372036854775807 : Int64))) - q1) / (q2 &&& (9223372036854775807 : Int64))) + (1 : Int64)) * (q2 &&& (9223372036854775807 : Int64)))) - (q1 + (q3 &&& (9223372036854775807 : Int64)))))]))
    refine Goes.pre (fun t kt => XS.lcmp X1.here hx rfl (hb hby at_83) rfl kt) ?_
    show Goes p e below s _ _ _ (T1.setTop (mkF m 84 #[.val (.long q1), .second, .val (.long q2), .second, .val (.long q3), .second, .val (.long (q2 &&& (9223372036854775807 : Int64))), .second, .val (.long (q3 &&& (9223372036854775807 : Int64))), .second, .val (.long (q1 + (q3 &&& (9223372036854775807 : Int64)))), .second, .val (.long (q1 + (((((q1 + (q3 &&& (9223372036854775807 : Int64))) - q1) / (q2 &&& (9223372036854775807 : Int64))) + (1 : Int64)) * (q2 &&& (9223372036854775807 : Int64))))), .second, .val (.long ((q1 + (((((q1 + (q3 &&& (9223372036854775807 : Int64))) - q1) / (q2 &&& (9223372036854775807 : Int64))) + (1 : Int64)) * (q2 &&& (9223372036854775807 : Int64)))) - (q1 + (q3 &&& (9223372036854775807 : Int64))))), .second, .val (.long ((q3 &&& (9223372036854775807 : Int64)) - ((q3 &&& (9223372036854775807 : Int64)) / (q2 &&& (9223372036854775807 : Int64))) * (q2 &&& (9223372036854775807 : Int64)))), .second, .val (.int (1 : Int32)), .unset] [(.int (lcmpW ((q1 + (((((q1 + (q3 &&& (9223372036854775807 : Int64))) - q1) / (q2 &&& (9223372036854775807 : Int64))) + (1 : Int64)) * (q2 &&& (9223372036854775807 : Int64)))) - (q1 + (q3 &&& (9223372036854775807 : Int64)))) ((q2 &&& (9223372036854775807 : Int64)) - ((q3 &&& (9223372036854775807 : Int64)) - ((q3 &&& (9223372036854775807 : Int64)) / (q2 &&& (9223372036854775807 : Int64))) * (q2 &&& (9223372036854775807 : Int64))))))]))
    refine Goes.pre (fun t kt => XS.ifNo X1.here hx rfl (hb hby at_84) rfl (Jvm.Free.XT.i0_ne_f ((lw_eq _ _).mpr (own_d _ _ _))) kt) ?_
    show Goes p e below s _ _ _ (T1.setTop (mkF m 87 #[.val (.long q1), .second, .val (.long q2), .second, .val (.long q3), .second, .val (.long (q2 &&& (9223372036854775807 : Int64))), .second, .val (.long (q3 &&& (9223372036854775807 : Int64))), .second, .val (.long (q1 + (q3 &&& (9223372036854775807 : Int64)))), .second, .val (.long (q1 + (((((q1 + (q3 &&& (9223372036854775807 : Int64))) - q1) / (q2 &&& (9223372036854775807 : Int64))) + (1 : Int64)) * (q2 &&& (9223372036854775807 : Int64))))), .second, .val (.long ((q1 + (((((q1 + (q3 &&& (9223372036854775807 : Int64))) - q1) / (q2 &&& (9223372036854775807 : Int64))) + (1 : Int64)) * (q2 &&& (9223372036854775807 : Int64)))) - (q1 + (q3 &&& (9223372036854775807 : Int64))))), .second, .val (.long ((q3 &&& (9223372036854775807 : Int64)) - ((q3 &&& (9223372036854775807 : Int64)) / (q2 &&& (9223372036854775807 : Int64))) * (q2 &&& (9223372036854775807 : Int64)))), .second, .val (.int (1 : Int32)), .unset] []))
    refine Goes.pre (fun t kt => XS.iconst X1.here hx rfl (hb hby at_87) kt) ?_
    show Goes p e below s _ _ _ (T1.setTop (mkF m 88 #[.val (.long q1), .second, .val (.long q2), .second, .val (.long q3), .second, .val (.long (q2 &&& (9223372036854775807 : Int64))), .second, .val (.long (q3 &&& (9223372036854775807 : Int64))), .second, .val (.long (q1 + (q3 &&& (9223372036854775807 : Int64)))), .second, .val (.long (q1 + (((((q1 + (q3 &&& (9223372036854775807 : Int64))) - q1) / (q2 &&& (9223372036854775807 : Int64))) + (1 : Int64)) * (q2 &&& (9223372036854775807 : Int64))))), .second, .val (.long ((q1 + (((((q1 + (q3 &&& (9223372036854775807 : Int64))) - q1) / (q2 &&& (9223372036854775807 : Int64))) + (1 : Int64)) * (q2 &&& (9223372036854775807 : Int64)))) - (q1 + (q3 &&& (9223372036854775807 : Int64))))), .second, .val (.long ((q3 &&& (9223372036854775807 : Int64)) - ((q3 &&& (9223372036854775807 : Int64)) / (q2 &&& (9223372036854775807 : Int64))) * (q2 &&& (9223372036854775807 : Int64)))), .second, .val (.int (1 : Int32)), .unset] [(.int (1 : Int32))]))
    refine Goes.pre (fun t kt => XS.goto X1.here hx rfl (pc0 := 88) (pc' := 92) rfl (hb hby at_88) (by decide) (by decide) kt) ?_
    show Goes p e below s _ _ _ (T1.setTop (mkF m 92 #[.val (.long q1), .second, .val (.long q2), .second, .val (.long q3), .second, .val (.long (q2 &&& (9223372036854775807 : Int64))), .second, .val (.long (q3 &&& (9223372036854775807 : Int64))), .second, .val (.long (q1 + (q3 &&& (9223372036854775807 : Int64)))), .second, .val (.long (q1 + (((((q1 + (q3 &&& (9223372036854775807 : Int64))) - q1) / (q2 &&& (9223372036854775807 : Int64))) + (1 : Int64)) * (q2 &&& (9223372036854775807 : Int64))))), .second, .val (.long ((q1 + (((((q1 + (q3 &&& (9223372036854775807 : Int64))) - q1) / (q2 &&& (9223372036854775807 : Int64))) + (1 : Int64)) * (q2 &&& (9223372036854775807 : Int64)))) - (q1 + (q3 &&& (9223372036854775807 : Int64))))), .second, .val (.long ((q3 &&& (9223372036854775807 : Int64)) - ((q3 &&& (9223372036854775807 : Int64)) / (q2 &&& (9223372036854775807 : Int64))) * (q2 &&& (9223372036854775807 : Int64)))), .second, .val (.int (1 : Int32)), .unset] [(.int (1 : Int32))]))
    refine Goes.pre (fun t kt => XS.istore X1.here hx rfl (hb hby at_92) rfl (l' := #[.val (.long q1), .second, .val (.long q2), .second, .val (.long q3), .second, .val (.long (q2 &&& (9223372036854775807 : Int64))), .second, .val (.long (q3 &&& (9223372036854775807 : Int64))), .second, .val (.long (q1 + (q3 &&& (9223372036854775807 : Int64)))), .second, .val (.long (q1 + (((((q1 + (q3 &&& (9223372036854775807 : Int64))) - q1) / (q2 &&& (9223372036854775807 : Int64))) + (1 : Int64)) * (q2 &&& (9223372036854775807 : Int64))))), .second, .val (.long ((q1 + (((((q1 + (q3 &&& (9223372036854775807 : Int64))) - q1) / (q2 &&& (9223372036854775807 : Int64))) + (1 : Int64)) * (q2 &&& (9223372036854775807 : Int64)))) - (q1 + (q3 &&& (9223372036854775807 : Int64))))), .second, .val (.long ((q3 &&& (9223372036854775807 : Int64)) - ((q3 &&& (9223372036854775807 : Int64)) / (q2 &&& (9223372036854775807 : Int64))) * (q2 &&& (9223372036854775807 : Int64)))), .second, .val (.int (1 : Int32)), .val (.int (1 : Int32))]) rfl kt) ?_
    show Goes p e below s _ _ _ (T1.setTop (mkF m 94 #[.val (.long q1), .second, .val (.long q2), .second, .val (.long q3), .second, .val (.long (q2 &&& (9223372036854775807 : Int64))), .second, .val (.long (q3 &&& (9223372036854775807 : Int64))), .second, .val (.long (q1 + (q3 &&& (9223372036854775807 : Int64)))), .second, .val (.long (q1 + (((((q1 + (q3 &&& (9223372036854775807 : Int64))) - q1) / (q2 &&& (9223372036854775807 : Int64))) + (1 : Int64)) * (q2 &&& (9223372036854775807 : Int64))))), .second, .val (.long ((q1 + (((((q1 + (q3 &&& (9223372036854775807 : Int64))) - q1) / (q2 &&& (9223372036854775807 : Int64))) + (1 : Int64)) * (q2 &&& (9223372036854775807 : Int64)))) - (q1 + (q3 &&& (9223372036854775807 : Int64))))), .second, .val (.long ((q3 &&& (9223372036854775807 : Int64)) - ((q3 &&& (9223372036854775807 : Int64)) / (q2 &&& (9223372036854775807 : Int64))) * (q2 &&& (9223372036854775807 : Int64)))), .second, .val (.int (1 : Int32)), .val (.int (1 : Int32))] []))
    refine Goes.pre (fun t kt => XS.iload X1.here hx rfl (hb hby at_94) rfl kt) ?_
    show Goes p e below s _ _ _ (T1.setTop (mkF m 96 #[.val (.long q1), .second, .val (.long q2), .second, .val (.long q3), .second, .val (.long (q2 &&& (9223372036854775807 : Int64))), .second, .val (.long (q3 &&& (9223372036854775807 : Int64))), .second, .val (.long (q1 + (q3 &&& (9223372036854775807 : Int64)))), .second, .val (.long (q1 + (((((q1 + (q3 &&& (9223372036854775807 : Int64))) - q1) / (q2 &&& (9223372036854775807 : Int64))) + (1 : Int64)) * (q2 &&& (9223372036854775807 : Int64))))), .second, .val (.long ((q1 + (((((q1 + (q3 &&& (9223372036854775807 : Int64))) - q1) / (q2 &&& (9223372036854775807 : Int64))) + (1 : Int64)) * (q2 &&& (9223372036854775807 : Int64)))) - (q1 + (q3 &&& (9223372036854775807 : Int64))))), .second, .val (.long ((q3 &&& (9223372036854775807 : Int64)) - ((q3 &&& (9223372036854775807 : Int64)) / (q2 &&& (9223372036854775807 : Int64))) * (q2 &&& (9223372036854775807 : Int64)))), .second, .val (.int (1 : Int32)), .val (.int (1 : Int32))] [(.int (1 : Int32))]))
    refine Goes.pre (fun t kt => XS.ifNo X1.here hx rfl (hb hby at_96) rfl (Jvm.Free.XT.i0_eq_f ((by decide))) kt) ?_
    show Goes p e below s _ _ _ (T1.setTop (mkF m 99 #[.val (.long q1), .second, .val (.long q2), .second, .val (.long q3), .second, .val (.long (q2 &&& (9223372036854775807 : Int64))), .second, .val (.long (q3 &&& (9223372036854775807 : Int64))), .second, .val (.long (q1 + (q3 &&& (9223372036854775807 : Int64)))), .second, .val (.long (q1 + (((((q1 + (q3 &&& (9223372036854775807 : Int64))) - q1) / (q2 &&& (9223372036854775807 : Int64))) + (1 : Int64)) * (q2 &&& (9223372036854775807 : Int64))))), .second, .val (.long ((q1 + (((((q1 + (q3 &&& (9223372036854775807 : Int64))) - q1) / (q2 &&& (9223372036854775807 : Int64))) + (1 : Int64)) * (q2 &&& (9223372036854775807 : Int64)))) - (q1 + (q3 &&& (9223372036854775807 : Int64))))), .second, .val (.long ((q3 &&& (9223372036854775807 : Int64)) - ((q3 &&& (9223372036854775807 : Int64)) / (q2 &&& (9223372036854775807 : Int64))) * (q2 &&& (9223372036854775807 : Int64)))), .second, .val (.int (1 : Int32)), .val (.int (1 : Int32))] []))
    refine Goes.pre (fun t kt => XS.iload X1.here hx rfl (hb hby at_99) rfl kt) ?_
    show Goes p e below s _ _ _ (T1.setTop (mkF m 101 #[.val (.long q1), .second, .val (.long q2), .second, .val (.long q3), .second, .val (.long (q2 &&& (9223372036854775807 : Int64))), .second, .val (.long (q3 &&& (9223372036854775807 : Int64))), .second, .val (.long (q1 + (q3 &&& (9223372036854775807 : Int64)))), .second, .val (.long (q1 + (((((q1 + (q3 &&& (9223372036854775807 : Int64))) - q1) / (q2 &&& (9223372036854775807 : Int64))) + (1 : Int64)) * (q2 &&& (9223372036854775807 : Int64))))), .second, .val (.long ((q1 + (((((q1 + (q3 &&& (9223372036854775807 : Int64))) - q1) / (q2 &&& (9223372036854775807 : Int64))) + (1 : Int64)) * (q2 &&& (9223372036854775807 : Int64)))) - (q1 + (q3 &&& (9223372036854775807 : Int64))))), .second, .val (.long ((q3 &&& (9223372036854775807 : Int64)) - ((q3 &&& (9223372036854775807 : Int64)) / (q2 &&& (9223372036854775807 : Int64))) * (q2 &&& (9223372036854775807 : Int64)))), .second, .val (.int (1 : Int32)), .val (.int (1 : Int32))] [(.int (1 : Int32))]))
    refine Goes.pre (fun t kt => XS.ifNo X1.here hx rfl (hb hby at_101) rfl (Jvm.Free.XT.i0_eq_f ((by decide))) kt) ?_
    show Goes p e below s _ _ _ (T1.setTop (mkF m 104 #[.val (.long q1), .second, .val (.long q2), .second, .val (.long q3), .second, .val (.long (q2 &&& (9223372036854775807 : Int64))), .second, .val (.long (q3 &&& (9223372036854775807 : Int64))), .second, .val (.long (q1 + (q3 &&& (9223372036854775807 : Int64)))), .second, .val (.long (q1 + (((((q1 + (q3 &&& (9223372036854775807 : Int64))) - q1) / (q2 &&& (9223372036854775807 : Int64))) + (1 : Int64)) * (q2 &&& (9223372036854775807 : Int64))))), .second, .val (.long ((q1 + (((((q1 + (q3 &&& (9223372036854775807 : Int64))) - q1) / (q2 &&& (9223372036854775807 : Int64))) + (1 : Int64)) * (q2 &&& (9223372036854775807 : Int64)))) - (q1 + (q3 &&& (9223372036854775807 : Int64))))), .second, .val (.long ((q3 &&& (9223372036854775807 : Int64)) - ((q3 &&& (9223372036854775807 : Int64)) / (q2 &&& (9223372036854775807 : Int64))) * (q2 &&& (9223372036854775807 : Int64)))), .second, .val (.int (1 : Int32)), .val (.int (1 : Int32))] []))
    refine Goes.pre (fun t kt => XS.iconst X1.here hx rfl (hb hby at_104) kt) ?_
    show Goes p e below s _ _ _ (T1.setTop (mkF m 105 #[.val (.long q1), .second, .val (.long q2), .second, .val (.long q3), .second, .val (.long (q2 &&& (9223372036854775807 : Int64))), .second, .val (.long (q3 &&& (9223372036854775807 : Int64))), .second, .val (.long (q1 + (q3 &&& (9223372036854775807 : Int64)))), .second, .val (.long (q1 + (((((q1 + (q3 &&& (9223372036854775807 : Int64))) - q1) / (q2 &&& (9223372036854775807 : Int64))) + (1 : Int64)) * (q2 &&& (9223372036854775807 : Int64))))), .second, .val (.long ((q1 + (((((q1 + (q3 &&& (9223372036854775807 : Int64))) - q1) / (q2 &&& (9223372036854775807 : Int64))) + (1 : Int64)) * (q2 &&& (9223372036854775807 : Int64)))) - (q1 + (q3 &&& (9223372036854775807 : Int64))))), .second, .val (.long ((q3 &&& (9223372036854775807 : Int64)) - ((q3 &&& (9223372036854775807 : Int64)) / (q2 &&& (9223372036854775807 : Int64))) * (q2 &&& (9223372036854775807 : Int64)))), .second, .val (.int (1 : Int32)), .val (.int (1 : Int32))] [(.int (1 : Int32))]))
    refine Goes.pre (fun t kt => XS.goto X1.here hx rfl (pc0 := 105) (pc' := 109) rfl (hb hby at_105) (by decide) (by decide) kt) ?_
    show Goes p e below s _ _ _ (T1.setTop (mkF m 109 #[.val (.long q1), .second, .val (.long q2), .second, .val (.long q3), .second, .val (.long (q2 &&& (9223372036854775807 : Int64))), .second, .val (.long (q3 &&& (9223372036854775807 : Int64))), .second, .val (.long (q1 + (q3 &&& (9223372036854775807 : Int64)))), .second, .val (.long (q1 + (((((q1 + (q3 &&& (9223372036854775807 : Int64))) - q1) / (q2 &&& (9223372036854775807 : Int64))) + (1 : Int64)) * (q2 &&& (9223372036854775807 : Int64))))), .second, .val (.long ((q1 + (((((q1 + (q3 &&& (9223372036854775807 : Int64))) - q1) / (q2 &&& (9223372036854775807 : Int64))) + (1 : Int64)) * (q2 &&& (9223372036854775807 : Int64)))) - (q1 + (q3 &&& (9223372036854775807 : Int64))))), .second, .val (.long ((q3 &&& (9223372036854775807 : Int64)) - ((q3 &&& (9223372036854775807 : Int64)) / (q2 &&& (9223372036854775807 : Int64))) * (q2 &&& (9223372036854775807 : Int64)))), .second, .val (.int (1 : Int32)), .val (.int (1 : Int32))] [(.int (1 : Int32))]))
    refine Goes.ret X1 (some (.int (1 : Int32))) (fun h => by rw [Bd.returns] at h; cases h) (BodyLoose.notSynchronized Bd) (by decide) (by decide) (fun fs hr => retN X1 hx (t := .boolean) Bd.returns (by simp) (hb hby at_109) hr) ?_
    show Q_rm0 Z q1 q2 q3 h0 n0 _ T1.heap _
    rw [eq1]
    exact ⟨rfl, N1⟩
set_option maxRecDepth 65536 in
set_option maxHeartbeats 40000000 in
theorem comes_1 {Post : Tables → Env → Array Value → State → Outcome → State → Prop} (hpost : ∀ tb e args s v u, (limb_1_1.after args s (.returned v) u = true ∧ limb_1_2.after args s (.returned v) u = true ∧ True) → FrameEnd s (.returned v) u (Jvm.fieldLocs frame_1_writes args s ++ Jvm.arrayLocs frame_1_arrays args s ++ Jvm.staticLocs frame_1_statics s) 0 0 → Post tb e args s (.returned v) u) :
    ArmFor flags0 classFile x code maxLocals ret World_1 tables_1 room_1 Calls_1 rest_1 Pre_1 Post := by
  intro l hfl _ _ p e ha hc hk s m args below hf hA hF happ hP
  obtain ⟨hcalls, hrest, hpre⟩ := hP
  obtain ⟨-, -, -, hnamed, -, -, -, hat⟩ := (Spec.applies_iff hf).mp happ
  obtain ⟨hg, hn⟩ := and_e (Cond.before_iff.mp (show (Jvm.Cond.and given_1 narrow_1).before args s = true from hpre))
  obtain ⟨gv1, gv2⟩ := and_e hg
  obtain ⟨gv3, gv4⟩ := and_e gv2
  obtain ⟨gv5, gv6⟩ := and_e gv4
  obtain ⟨w0, w1, w2, rfl⟩ : ∃ w0 w1 w2 : Value, args = #[w0, w1, w2] := by
    have hs : args.size = 3 := by simpa [Cond.value, given_1] using gv1
    obtain ⟨L⟩ := args
    match L, hs with
    | [w0, w1, w2], _ => exact ⟨w0, w1, w2, rfl⟩
  have hw := fun d (hd : d ∈ tables_1) => atoms_spec (ws := Jvm.Cond.code x code maxLocals ret :: tables_1) hat d (List.mem_cons_of_mem _ hd)
  have hfit : Fit s := fun {y c} hc i hi => by
    obtain ⟨ha, rfl⟩ := Array.getElem?_eq_some_iff.mp hc
    have q := List.all_eq_true.mp ((Array.all_eq_true_iff_forall_mem.mp hF) _ (Array.getElem_mem ha)) i (List.mem_range.mpr hi)
    simpa [Array.getElem?_eq_getElem hi] using q
  obtain ⟨i0, ei0⟩ := isL_v gv3
  obtain rfl : w0 = (.long i0) := Option.some.inj ei0
  obtain ⟨i1, ei1⟩ := isL_v gv5
  obtain rfl : w1 = (.long i1) := Option.some.inj ei1
  obtain ⟨i2, ei2⟩ := isL_v gv6
  obtain rfl : w2 = (.long i2) := Option.some.inj ei2
  obtain ⟨n, o, h1, h2, h3, _, L, rfl, ⟨rfl, N⟩, hq⟩ := rm0 l s _ hw tables_1 i0 i1 i2  s.heap s.heap.size (Nat.le_refl _)  p e ha hc hk s m _ below hf ((Spec.applies_iff_loose hf).mp happ).1 ⟨rfl, State.Warmed39.refl s, rfl⟩ trivial
  refine ⟨n, _, h1, h2, h3, hpost _ _ _ _ _ _ ⟨Cond.after_iff.mpr rfl, Cond.after_iff.mpr (eq_i res_at (Term.int_eval (1)) rfl), trivial⟩ ⟨hq.1, hq.2.1, (hq.2.2.sift fun y hy => Or.inr (N y hy)).mono (by decide) (by decide)⟩⟩
theorem main_1_1 : Claimed_1_1 := comes_1 fun _ _ _ _ _ _ h hF => ⟨h.1, hF⟩
theorem main_1_2 : Claimed_1_2 := comes_1 fun _ _ _ _ _ _ h hF => ⟨h.2.1, hF⟩
end Jvm.Pilot.@@N@@
namespace Jvm.Pilot.@@N@@
open Jvm Jvm.ClassFile Sem Op Lib Jvm.Free Jvm.Stand Jvm.Pilot.@@N@@.Jvm.D
/-! MADE BY PROGRAM (witnessworld.py) out of the Statement's table words and the real class files: 7 classes; the members and pool entries that the words name. The judged class is class 1, her method 1. -/
namespace start1
open Jvm.ClassFile
def u (s : String) : CpInfo := .utf8 (stringToUtf16 s)
/-- a pool by its gaps: so many unusable entries, then the entry; so many at the end -/
def gap : Nat → List CpInfo → List CpInfo
  | 0, r => r
  | n + 1, r => .unusable :: gap n r
def poolList (es : List (Nat × CpInfo)) (last : Nat) : List CpInfo := es.foldr (fun e r => gap e.1 (e.2 :: r)) (gap last [])
def pool (es : List (Nat × CpInfo)) (last : Nat) : Array CpInfo := ⟨poolList es last⟩
def fileOf (pool : Array CpInfo) (this : Nat) (attrs : Array Attribute := #[]) (ms : Array MethodInfo := #[]) (fl : Nat := 33) (sup : Nat := 0) (ifs : Array Nat := #[]) (fds : Array FieldInfo := #[]) : ClassFile where
  minorVersion := 0
  majorVersion := 65
  constantPool := pool
  accessFlags := fl
  thisClass := this
  superClass := sup
  interfaces := ifs
  fields := fds
  methods := ms
  attributes := attrs
def plain (name : String) (sup : Option ClassId) : Class where
  name := name
  kind := .ordinary
  loader := none
  accessFlags := 33
  super := sup
  interfaces := #[]
  cf := none
  fields := #[]
  methods := #[]
  instanceTypes := #[]
  staticTypes := #[]
  resolved := #[]
  callSites := []
  init := .initialized
  statics := none
  mirror := none

def pool0 : Array CpInfo := pool [(5, u "<init>"), (0, u "()V"), (1, .class_ 10), (1, u "java/lang/Object")] 113

def k0m0 : Method := { name := "<init>", desc := "()V", sig := { parameters := [], returnType := none }, accessFlags := 1, code := none }
/-- java/lang/Object -/
def k0 : Class := { plain "java/lang/Object" none with
  accessFlags := 33
  interfaces := #[]
  cf := some (fileOf pool0 8 #[] #[{ accessFlags := 1, nameIndex := 5, descriptorIndex := 6, attributes := #[] }] 33 0 #[] #[])
  fields := #[]
  methods := #[k0m0]
  instanceTypes := #[]
  staticTypes := #[]
  resolved := Array.replicate 124 none
  statics := none }

def pool1 : Array CpInfo := pool [(2, .class_ 4), (1, u "java/lang/Object"), (0, u "<init>"), (0, u "()V"), (2, .long 9223372036854775807), (1, .methodref 12 13), (0, .class_ 14), (0, .nameAndType 15 16), (0, u "com/example/libshed/libshed/limit/Windows"), (0, u "endAfter"), (0, u "(JJJ)J"), (0, .class_ 18), (0, u "com/example/libshed/libshed/limit/WindowsEndAfterPinLaw"), (2, u "law"), (0, u "(JJJ)Z")] 3

def k1m0 : Method := { name := "<init>", desc := "()V", sig := { parameters := [], returnType := none }, accessFlags := 2, code := none }
def k1c1 : Code := { maxStack := 6, maxLocals := 20, code := code, exceptionTable := #[], attributes := #[] }
def k1m1 : Method := { name := "law", desc := "(JJJ)Z", sig := { parameters := [.long, .long, .long], returnType := some .boolean }, accessFlags := 9, code := some k1c1 }
/-- com/example/libshed/libshed/limit/WindowsEndAfterPinLaw -/
def k1 : Class := { plain "com/example/libshed/libshed/limit/WindowsEndAfterPinLaw" (some 0) with
  accessFlags := 49
  interfaces := #[]
  cf := some (fileOf pool1 17 #[] #[{ accessFlags := 2, nameIndex := 5, descriptorIndex := 6, attributes := #[] }, { accessFlags := 9, nameIndex := 21, descriptorIndex := 22, attributes := #[] }] 49 2 #[] #[])
  fields := #[]
  methods := #[k1m0, k1m1]
  instanceTypes := #[]
  staticTypes := #[]
  resolved := Array.replicate 26 none
  statics := none }

def pool2 : Array CpInfo := pool [(2, .class_ 4), (1, u "java/lang/Object"), (0, u "<init>"), (0, u "()V"), (0, .class_ 8), (0, u "com/example/libshed/libshed/limit/Windows"), (2, u "endAfter"), (0, u "(JJJ)J")] 2

def k2m0 : Method := { name := "<init>", desc := "()V", sig := { parameters := [], returnType := none }, accessFlags := 2, code := none }
def k2c1 : Code := { maxStack := 6, maxLocals := 8, code := prog_36_method_2_code, exceptionTable := #[], attributes := #[] }
def k2m1 : Method := { name := "endAfter", desc := "(JJJ)J", sig := { parameters := [.long, .long, .long], returnType := some .long }, accessFlags := 8, code := some k2c1 }
/-- com/example/libshed/libshed/limit/Windows -/
def k2 : Class := { plain "com/example/libshed/libshed/limit/Windows" (some 0) with
  accessFlags := 48
  interfaces := #[]
  cf := some (fileOf pool2 7 #[] #[{ accessFlags := 2, nameIndex := 5, descriptorIndex := 6, attributes := #[] }, { accessFlags := 8, nameIndex := 11, descriptorIndex := 12, attributes := #[] }] 48 2 #[] #[])
  fields := #[]
  methods := #[k2m0, k2m1]
  instanceTypes := #[]
  staticTypes := #[]
  resolved := Array.replicate 15 none
  statics := none }

def pool3 : Array CpInfo := pool [(1, u "java/lang/Cloneable"), (0, .class_ 1), (0, u "java/lang/Object"), (0, .class_ 3)] 3

/-- java/lang/Cloneable -/
def k3 : Class := { plain "java/lang/Cloneable" (some 0) with
  accessFlags := 1537
  interfaces := #[]
  cf := some (fileOf pool3 2 #[] #[] 1537 4 #[] #[])
  fields := #[]
  methods := #[]
  instanceTypes := #[]
  staticTypes := #[]
  resolved := Array.replicate 8 none
  statics := none }

def pool4 : Array CpInfo := pool [(1, u "java/io/Serializable"), (0, .class_ 1), (0, u "java/lang/Object"), (0, .class_ 3)] 3

/-- java/io/Serializable -/
def k4 : Class := { plain "java/io/Serializable" (some 0) with
  accessFlags := 1537
  interfaces := #[]
  cf := some (fileOf pool4 2 #[] #[] 1537 4 #[] #[])
  fields := #[]
  methods := #[]
  instanceTypes := #[]
  staticTypes := #[]
  resolved := Array.replicate 8 none
  statics := none }

/-- the primitive byte -/
def k5 : Class := { plain "byte" none with kind := .primitive 'B', accessFlags := 0x411 }
/-- [B -/
def k6 : Class := { plain "[B" (some 0) with kind := .array 5 .byte, interfaces := #[3, 4], accessFlags := 1041 }

def heap : Heap := #[]
def classes : Array Class := #[k0, k1, k2, k3, k4, k5, k6]
def interned : List (Array UInt16 × Addr) := []
def slotsUsed : Nat := 0
def theMethod : MethodId := ⟨1, 1⟩
def args0 : Array Value := #[.long 5, .long 3, .long 7]
def aboutOver (below : List Frame) : State where
  vm := { classes := classes, interned := interned.toArray }
  heap := heap
  slotsUsed := slotsUsed
  threads := #[{ frames := .invoking theMethod args0 :: below }]
def below0 : List Frame := [.native { method := ⟨0, 0⟩, args := #[] }]
def about1 : State := aboutOver below0
def p0 : Program := .bare "" "" ""
def e0 : Env := launch0.env 0 0 0
theorem w_frames : about1.frames = Frame.invoking theMethod args0 :: below0 := rfl
set_option maxRecDepth 65536 in
theorem w_args : argsFit about1.vm theMethod args0 = true := by decide +kernel
set_option maxRecDepth 65536 in
theorem w_heap : heapFits about1 = true := by decide +kernel
set_option maxRecDepth 65536 in
theorem w_runnable : about1.curStatus? = some .runnable := by decide +kernel
set_option maxRecDepth 65536 in
theorem w_alone : about1.alone = true := by decide +kernel
set_option maxRecDepth 65536 in
theorem w_named : about1.methodNamed? x = some theMethod := by decide +kernel
set_option maxRecDepth 65536 in
theorem w_hears : about1.hears theMethod below0 = true := by decide +kernel
set_option maxRecDepth 65536 in
theorem w_ripe : about1.ripe theMethod args0 below0 = true := by decide +kernel
theorem w_running : about1.status = .running := rfl
set_option maxRecDepth 65536 in
theorem w_room : about1.hasRoom e0.platform room_1 = true :=
  launch0.hasRoom_least _ room_1 (by decide +kernel) (by decide +kernel) (by decide +kernel) (by decide +kernel) (by decide +kernel) (by decide +kernel)
theorem allAtoms_all (ts : List Jvm.Cond) (a : Array Jvm.Value) (st : Jvm.State) : (allAtoms ts).before a st = ts.all (fun c => c.before a st) := by
  induction ts with
  | nil => rfl
  | cons c t ih =>
    show (Jvm.Cond.and c (allAtoms t)).before a st = _
    rw [Jvm.Cond.before_and, ih, List.all_cons]
def words1 : List Jvm.Cond := Jvm.Cond.code x code maxLocals ret :: tables_1
/-- a 'code' word, met by the world's own term for the bytes: nothing is compared byte by byte -/
theorem code_word {y : MethodName} {bytes : ByteArray} {mx : Nat} {rt : Option FieldType} {a : Array Value} {s : State} {m : MethodId} {meth : Method} {c : Code} (h1 : s.methodNamed? y = some m) (h2 : s.vm.method? m = some meth) (h3 : meth.code = some c) (h4 : c.code = bytes)
    (h5 : (c.maxLocals == mx && c.exceptionTable.isEmpty && decide (c.maxStack ≤ mostOperands) && decide (meth.sig.returnType = rt) && !meth.locks && decide (parseMethodDescriptor y.desc = some meth.sig)) = true) : (Jvm.Cond.code y bytes mx rt).before a s = true := by
  simp only [Bool.and_eq_true, beq_iff_eq, Bool.not_eq_true', decide_eq_true_eq] at h5
  obtain ⟨⟨⟨⟨⟨g1, g2⟩, g3⟩, g4⟩, g5⟩, g6⟩ := h5
  simp [Cond.before, Cond.holds, Cond.value, h1, h2, h3, h4, g1, g2, g3, g4, g5, g6]
def isCode : Jvm.Cond → Bool
  | .code _ _ _ _ => true
  | _ => false
theorem all_split {L : List Jvm.Cond} {P : Jvm.Cond → Bool} (h1 : L.all (fun c => isCode c || P c) = true) (h2 : ∀ c ∈ L.filter isCode, P c = true) : L.all P = true := by
  refine List.all_eq_true.mpr fun c hc => ?_
  have h := List.all_eq_true.mp h1 c hc
  rcases Bool.eq_false_or_eq_true (isCode c) with hi | hi
  · exact h2 c (List.mem_filter.mpr ⟨hc, hi⟩)
  · simpa [hi] using h
set_option maxRecDepth 65536 in
theorem w_c0 : (Jvm.Cond.code x code maxLocals ret).before args0 about1 = true := code_word (m := ⟨1, 1⟩) (meth := k1m1) (c := k1c1) (by decide +kernel) rfl rfl rfl (by decide +kernel)
set_option maxRecDepth 65536 in
theorem w_c1 : (Jvm.Cond.code ({ cls := "com/example/libshed/libshed/limit/Windows", name := "endAfter", desc := "(JJJ)J" } : Jvm.MethodName) prog_36_method_2_code (8 : Nat) (Option.some Jvm.ClassFile.FieldType.long)).before args0 about1 = true := code_word (m := ⟨2, 1⟩) (meth := k2m1) (c := k2c1) (by decide +kernel) rfl rfl rfl (by decide +kernel)
def codes1 : List Jvm.Cond := [Jvm.Cond.code x code maxLocals ret, Jvm.Cond.code ({ cls := "com/example/libshed/libshed/limit/Windows", name := "endAfter", desc := "(JJJ)J" } : Jvm.MethodName) prog_36_method_2_code (8 : Nat) (Option.some Jvm.ClassFile.FieldType.long)]
set_option maxRecDepth 65536 in
theorem codes_eq : words1.filter isCode = codes1 := rfl
theorem w_codes : ∀ c ∈ words1.filter isCode, c.before args0 about1 = true := by
  rw [codes_eq]
  intro c hc
  simp only [codes1, List.mem_cons, List.not_mem_nil, or_false] at hc
  rcases hc with rfl | rfl
  · exact w_c0
  · exact w_c1
set_option maxRecDepth 65536 in
theorem w_t1 : words1.all (fun c => isCode c || c.before args0 about1) = true := by decide +kernel
theorem w_tables : (allAtoms (Jvm.Cond.code x code maxLocals ret :: tables_1)).before args0 about1 = true := by
  rw [allAtoms_all]
  show words1.all (fun c => c.before args0 about1) = true
  refine all_split ?_ w_codes
  rw [w_t1]
set_option maxRecDepth 65536 in
theorem w_case : (Jvm.Cond.and given_1 narrow_1).before args0 about1 = true := by decide +kernel
theorem w_applies : (headSpec (Jvm.Cond.code x code maxLocals ret :: tables_1) room_1).applies x e0.platform about1 = true :=
  (Spec.applies_iff w_frames).mpr ⟨w_running, w_runnable, w_alone, w_named, w_hears, w_ripe, w_room, w_tables⟩
theorem atStart : AtStart classFile x code maxLocals ret World_1 tables_1 room_1 Calls_1 rest_1 Pre_1 launch0 p0 e0 about1 theMethod args0 below0 :=
  ⟨lists_1, trivial, launch0.admits_env _ _ _, launch0.least_env, fairChoices_fair.cas, fairChoices_fair.clock, w_frames, w_args, w_heap, w_applies, trivial, trivial, w_case⟩
end start1
theorem witness_1 : WitnessClaimed_1 := ⟨start1.p0, start1.e0, start1.about1, start1.theMethod, start1.args0, start1.below0, start1.atStart⟩
end Jvm.Pilot.@@N@@
