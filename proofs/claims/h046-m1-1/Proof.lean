import JvmDerived
import JvmDerived.Pilot.@@N@@Statement
import JvmDerived.Pilot.@@N@@Code
set_option linter.unusedVariables false
set_option linter.unusedSimpArgs false
namespace Jvm.Pilot.@@N@@
open Jvm Jvm.ClassFile Sem Op Lib Jvm.Free Jvm.Stand Jvm.LawKit Jvm.RoadKit Bundle Jvm.Pilot.@@N@@.Jvm.D
/-- from A the run comes to an end of the body that says P -/
def Goes (p : Program) (e : Env) (below : List Frame) (s : State) (P : Option Value → Heap → List Loc → Prop) (k n : Nat) (A : State) : Prop :=
  ∃ s₂ o, Steps p.tables e below A s₂ ∧ s₂.status = .running ∧ Ended s₂ below o ∧ ∃ v L, o = .returned v ∧ P v s₂.heap L ∧ FrameEnd s o s₂ L k n
section OwnGoes
variable {p : Program} {l : Launch} {e : Env} {R : Room} {s : State} {m : MethodId} {args : Array Value} {below : List Frame} {meth : Method} {c : Code} {T : State} {locs : List Loc} {cells slots : Nat} {P : Option Value → Heap → List Loc → Prop} {k n : Nat} {A B : State}
theorem Goes.pre (h : ∀ t, Steps p.tables e below B t → Steps p.tables e below A t) (g : Goes p e below s P k n B) : Goes p e below s P k n A := by
  obtain ⟨t, o, h1, r⟩ := g
  exact ⟨t, o, h _ h1, r⟩
theorem Goes.run (h : Steps p.tables e below A B) (g : Goes p e below s P k n B) : Goes p e below s P k n A := g.pre fun _ q => h.trans q
theorem Goes.ret (X : Stand p l e R s m args below meth c T locs cells slots) (v : Option Value) (hv : meth.sig.returnType = none → v = none) (hlocks : meth.locks = false) (hk : cells ≤ k) (hn : slots ≤ n) {f : JFrame}
    (st : ∀ fs : List Frame, (∀ (f : JFrame) (acts : List Action), f.method = m → f.locked = none → f.entered = [] → (doReturn e (T.setTop f) acts v).1 = T.setFrames fs) → Steps p.tables e below (T.setTop f) (T.setFrames fs))
    (hP : P v T.heap locs) : Goes p e below s P k n (T.setTop f) := by
  obtain ⟨fs, hr, hrun, hended, hW, hsame⟩ := X.leave (v := v) hv hlocks
  exact ⟨_, _, st fs hr, hrun, hended, _, _, rfl, hP, ⟨_, rfl⟩, hW, hsame.mono hk hn⟩
end OwnGoes

def own_cub (dd : UInt64) : UInt64 := FP.dmul (FP.dmul dd dd) dd
def own_thr (dd : UInt64) : UInt64 := FP.dmul (FP.l2d ((640 : Int32).toInt64)) (FP.dsub (FP.l2d 1) (own_cub dd))
def own_shed (p : Int32) (dd : UInt64) : Int32 := if (0 : Int32) < cmpValue (FP.dcmp (FP.l2d (p.toInt64)) (own_thr dd)) .l then 1 else 0
def own_nn (x : UInt64) : Bool := decide (x &&& 0x7fffffffffffffff ≤ 0x7ff0000000000000)
def own_load (n : Nat) : UInt64 := FP.ddiv (FP.l2d (Int64.ofNat n)) (4652218415073722368 : UInt64)
def own_fine (dd : UInt64) : Bool := own_nn dd && own_nn (FP.dmul dd dd) && own_nn (own_cub dd) && own_nn (FP.dsub (FP.l2d 1) (own_cub dd)) && own_nn (own_thr dd) && decide (FP.Core.val64 (own_thr dd) ≠ .nan)
def own_chk (n : Nat) : Bool := own_fine (own_load n) && decide (FP.Core.zval FP.Core.b64 (FP.Core.val64 (own_thr (own_load n))) * 8388608 = 5 * (1073741824 - (n : Int) ^ 3) * (FP.Core.one64 : Int))
def own_chkN (n : Nat) : Bool := own_fine (FP.dneg (own_load n)) && decide (640 * (FP.Core.one64 : Int) ≤ FP.Core.zval FP.Core.b64 (FP.Core.val64 (own_thr (FP.dneg (own_load n)))))
def own_all (f : Nat → Bool) : Nat → Bool
  | 0 => true
  | n + 1 => f n && own_all f n
theorem own_all_spec {f : Nat → Bool} : ∀ {n : Nat}, own_all f n = true → ∀ k, k < n → f k = true
  | n + 1, h, k, hk => by
    simp only [own_all, Bool.and_eq_true] at h
    rcases Nat.lt_succ_iff_lt_or_eq.mp hk with q | q
    · exact own_all_spec h.2 k q
    · rw [q]; exact h.1
set_option maxRecDepth 100000 in
theorem own_tab : own_all own_chk 1025 = true := by decide +kernel
set_option maxRecDepth 100000 in
theorem own_tabN : own_all own_chkN 1025 = true := by decide +kernel
theorem own_fine_nn {dd : UInt64} (h : own_fine dd = true) : Jvm.Free.Fl.NoNaN64 dd ∧ Jvm.Free.Fl.NoNaN64 (FP.dmul dd dd) ∧ Jvm.Free.Fl.NoNaN64 (FP.dmul (FP.dmul dd dd) dd) ∧ Jvm.Free.Fl.NoNaN64 (FP.dsub (FP.l2d 1) (FP.dmul (FP.dmul dd dd) dd)) ∧ Jvm.Free.Fl.NoNaN64 (FP.dmul (FP.l2d ((640 : Int32).toInt64)) (FP.dsub (FP.l2d 1) (FP.dmul (FP.dmul dd dd) dd))) ∧ FP.Core.val64 (own_thr dd) ≠ .nan := by
  simp only [own_fine, own_nn, Bool.and_eq_true, decide_eq_true_eq] at h
  obtain ⟨⟨⟨⟨⟨h1, h2⟩, h3⟩, h4⟩, h5⟩, h6⟩ := h
  exact ⟨h1, h2, h3, h4, h5, h6⟩
theorem own_gz (p : Int32) : FP.Core.zval FP.Core.b64 (FP.Core.val64 (FP.l2d (p.toInt64))) = p.toInt * (FP.Core.one64 : Int) := by
  have h := FP.Core.DInt_zval (FP.Core.l2d_int (a := p.toInt64) (by rw [c_i2l]; have := rng32 p; omega))
  rw [c_i2l] at h
  exact h
theorem own_gn (p : Int32) : FP.Core.val64 (FP.l2d (p.toInt64)) ≠ .nan := by
  intro h
  have q := FP.Core.l2d_notNaN (p.toInt64)
  simp [FP.Core.dIsNaN, FP.Core.isNaN] at q
  exact q h
theorem own_cmp (p : Int32) {t : UInt64} (ht : FP.Core.val64 t ≠ .nan) : (0 : Int32) < cmpValue (FP.dcmp (FP.l2d (p.toInt64)) t) .l ↔ FP.Core.zval FP.Core.b64 (FP.Core.val64 t) < p.toInt * (FP.Core.one64 : Int) := by
  have h : FP.dcmp (FP.l2d (p.toInt64)) t = some (compare (FP.Core.zval FP.Core.b64 (FP.Core.val64 (FP.l2d (p.toInt64)))) (FP.Core.zval FP.Core.b64 (FP.Core.val64 t))) := FP.Core.dcmp_zval (own_gn p) ht
  rw [h, own_gz]
  generalize p.toInt * (FP.Core.one64 : Int) = a
  generalize FP.Core.zval FP.Core.b64 (FP.Core.val64 t) = b
  rcases Int.lt_trichotomy a b with q | q | q
  · rw [Int.compare_eq_lt.mpr q]; simp [cmpValue]; omega
  · rw [Int.compare_eq_eq.mpr q]; simp [cmpValue]; omega
  · rw [Int.compare_eq_gt.mpr q]; simp [cmpValue]; omega
theorem own_one : (0 : Int) < (FP.Core.one64 : Int) := by
  have : 0 < FP.Core.one64 := Nat.two_pow_pos _
  omega
theorem own_kk (k m : Int32) (M : Nat) (hm : m.toInt = M) (h0 : 0 < M) (h1 : M ≤ 1025) : ∃ n : Nat, n < M ∧ ((k &&& (2147483647 : Int32)) % m).toInt = n := by
  have a := c_and k (2147483647 : Int32) (by decide)
  have b := (c_irem (k &&& (2147483647 : Int32)) m M (by rw [hm])).1 a.1
  have c := Int.emod_nonneg (k &&& (2147483647 : Int32)).toInt (show (M : Int) ≠ 0 by omega)
  have d := Int.emod_lt_of_pos (k &&& (2147483647 : Int32)).toInt (show (0 : Int) < M by omega)
  exact ⟨((k &&& (2147483647 : Int32)) % m).toInt.toNat, by omega, by omega⟩
theorem own_ofNat {x : Int32} {n : Nat} (h : x.toInt = n) (hn : n ≤ 1025) : x.toInt64 = Int64.ofNat n := by
  apply Int64.toInt_inj.mp
  rw [c_i2l, h]
  exact (Int64.toInt_ofNat_of_lt (by omega)).symm
theorem own_load_of {x : Int32} {n : Nat} (h : x.toInt = n) (hn : n ≤ 1024) : FP.ddiv (FP.l2d (x.toInt64)) (4652218415073722368 : UInt64) = own_load n := by
  rw [own_ofNat h (by omega)]; rfl
theorem own_neg (k g : Int32) : ∃ n : Nat, n ≤ 1024 ∧ FP.ddiv (FP.l2d (((1 : Int32) + ((k &&& (2147483647 : Int32)) % (1024 : Int32))).toInt64)) (4652218415073722368 : UInt64) = own_load n ∧ own_fine (own_load n) = true ∧ own_fine (FP.dneg (own_load n)) = true ∧ own_shed ((1 : Int32) + ((g &&& (2147483647 : Int32)) % (640 : Int32))) (FP.dneg (own_load n)) = 0 := by
  obtain ⟨n, h1, h2⟩ := own_kk k 1024 1024 (by decide) (by omega) (by omega)
  obtain ⟨m, g1, g2⟩ := own_kk g 640 640 (by decide) (by omega) (by omega)
  have e1 := c_iadd (1 : Int32) ((k &&& (2147483647 : Int32)) % (1024 : Int32))
  have e2 := c_iadd (1 : Int32) ((g &&& (2147483647 : Int32)) % (640 : Int32))
  have r1 := rng32 ((1 : Int32) + ((k &&& (2147483647 : Int32)) % (1024 : Int32)))
  have r2 := rng32 ((1 : Int32) + ((g &&& (2147483647 : Int32)) % (640 : Int32)))
  have k1 : (1 : Int32).toInt = 1 := by decide
  have hA : ((1 : Int32) + ((k &&& (2147483647 : Int32)) % (1024 : Int32))).toInt = ((n + 1 : Nat) : Int) := by omega
  have hB : ((1 : Int32) + ((g &&& (2147483647 : Int32)) % (640 : Int32))).toInt ≤ 640 := by omega
  have t := own_all_spec own_tab (n + 1) (by omega)
  have tN := own_all_spec own_tabN (n + 1) (by omega)
  simp only [own_chk, own_chkN, Bool.and_eq_true, decide_eq_true_eq] at t tN
  refine ⟨n + 1, by omega, own_load_of hA (by omega), t.1, tN.1, ?_⟩
  unfold own_shed
  rw [if_neg]
  rw [own_cmp _ (own_fine_nn tN.1).2.2.2.2.2]
  have o := own_one
  have := Int.mul_le_mul_of_nonneg_right hB (Int.le_of_lt o)
  omega
theorem own_pos (k g : Int32) : ∃ n : Nat, n ≤ 1024 ∧ FP.ddiv (FP.l2d (((k &&& (2147483647 : Int32)) % (1025 : Int32)).toInt64)) (4652218415073722368 : UInt64) = own_load n ∧ own_fine (own_load n) = true ∧ ((k &&& (2147483647 : Int32)) % (1025 : Int32)).toInt64.toInt = n ∧ (own_shed g (own_load n) = if 5 * (1073741824 - (n : Int) ^ 3) < g.toInt * 8388608 then 1 else 0) := by
  obtain ⟨n, h1, h2⟩ := own_kk k 1025 1025 (by decide) (by omega) (by omega)
  have t := own_all_spec own_tab n (by omega)
  simp only [own_chk, Bool.and_eq_true, decide_eq_true_eq] at t
  refine ⟨n, by omega, own_load_of h2 (by omega), t.1, by rw [c_i2l, h2], ?_⟩
  unfold own_shed
  have e : (0 : Int32) < cmpValue (FP.dcmp (FP.l2d (g.toInt64)) (own_thr (own_load n))) .l ↔ 5 * (1073741824 - (n : Int) ^ 3) < g.toInt * 8388608 := by
    rw [own_cmp _ (own_fine_nn t.1).2.2.2.2.2]
    have o := own_one
    have q := t.2
    generalize FP.Core.zval FP.Core.b64 (FP.Core.val64 (own_thr (own_load n))) = z at *
    generalize 5 * (1073741824 - (n : Int) ^ 3) = c at *
    generalize (FP.Core.one64 : Int) = u at *
    constructor
    · intro h
      have h' : z * 8388608 < g.toInt * u * 8388608 := by omega
      rw [q, Int.mul_right_comm] at h'
      exact Int.lt_of_mul_lt_mul_right h' (Int.le_of_lt o)
    · intro h
      have h' : c * u < g.toInt * 8388608 * u := Int.mul_lt_mul_of_pos_right h o
      rw [← q, Int.mul_right_comm] at h'
      omega
  by_cases c : 5 * (1073741824 - (n : Int) ^ 3) < g.toInt * 8388608
  · rw [if_pos c, if_pos (e.mpr c)]
  · rw [if_neg c, if_neg (fun w => c (e.mp w))]
theorem own_mod {x y : Int} (h : (x - y) % 18446744073709551616 = 0) (h1 : -9223372036854775808 ≤ x) (h2 : x < 9223372036854775808) (h3 : -9223372036854775808 ≤ y) (h4 : y < 9223372036854775808) : x = y := by omega
theorem own_mulE {a b : Int64} {x y : Int} (ha : a.toInt = x) (hb : b.toInt = y) (h3 : -9223372036854775808 ≤ x * y) (h4 : x * y < 9223372036854775808) : (a * b).toInt = x * y := by
  have m := c_lmul a b
  rw [ha, hb] at m
  exact own_mod m (rng64 _).1 (rng64 _).2 h3 h4
theorem own_sq {n : Nat} {M : Nat} (hn : n ≤ M) : (0 : Int) ≤ (n : Int) ∧ (n : Int) ≤ M := ⟨Int.natCast_nonneg n, Int.ofNat_le.mpr hn⟩
theorem own_cube {q : Int64} {n : Nat} (hn : n ≤ 1024) (hq : q.toInt = n) : (q * q * q).toInt = ((n * n * n : Nat) : Int) ∧ ((n * n * n : Nat) : Int) ≤ 1073741824 := by
  have b1 : n * n ≤ 1048576 := Nat.mul_le_mul hn hn
  have b2 : n * n * n ≤ 1073741824 := Nat.mul_le_mul b1 hn
  have c1 := own_sq b1
  have c2 := own_sq b2
  have e1 : (q * q).toInt = ((n * n : Nat) : Int) := by
    rw [Int.natCast_mul]
    rw [Int.natCast_mul] at c1
    exact own_mulE hq hq (by omega) (by omega)
  refine ⟨?_, c2.2⟩
  rw [Int.natCast_mul (n * n)]
  rw [Int.natCast_mul (n * n)] at c2
  exact own_mulE e1 hq (by omega) (by omega)
theorem own_five {c : Int64} {z : Int} (hc : c.toInt = z) (h0 : 0 ≤ z) (h1 : z ≤ 1073741824) : ((5 : Int64) * ((1073741824 : Int64) - c)).toInt = 5 * (1073741824 - z) := by
  have m := c_lsub (1073741824 : Int64) c
  have k1 : (1073741824 : Int64).toInt = 1073741824 := by decide
  rw [hc, k1] at m
  have e : ((1073741824 : Int64) - c).toInt = 1073741824 - z := own_mod m (rng64 _).1 (rng64 _).2 (by omega) (by omega)
  exact own_mulE (by decide) e (by omega) (by omega)
theorem own_long (g : Int32) {q : Int64} {n : Nat} (hn : n ≤ 1024) (hq : q.toInt = n) : ((5 : Int64) * ((1073741824 : Int64) - ((q * q) * q))) < ((g.toInt64) * (8388608 : Int64)) ↔ 5 * (1073741824 - (n : Int) ^ 3) < g.toInt * 8388608 := by
  obtain ⟨e2, e2'⟩ := own_cube hn hq
  have e4 := own_five e2 (Int.natCast_nonneg _) e2'
  have rg := rng32 g
  have e5 : (g.toInt64 * (8388608 : Int64)).toInt = g.toInt * 8388608 := own_mulE (c_i2l g) (by decide) (by omega) (by omega)
  have p3 : (n : Int) ^ 3 = ((n * n * n : Nat) : Int) := by rw [Int.pow_succ, Int.pow_succ, Int.pow_succ, Int.pow_zero, Int.one_mul, Int.natCast_mul, Int.natCast_mul]
  rw [Int64.lt_iff_toInt_lt, e4, e5, p3]
theorem d1_0 : decode prog_27_method_3_code 0 = .ok (.iload_n 0, 1) := by decide +kernel
theorem d1_1 : decode prog_27_method_3_code 1 = .ok (.i2d, 1) := by decide +kernel
theorem d1_2 : decode prog_27_method_3_code 2 = .ok (.getstatic 32, 3) := by decide +kernel
theorem d1_5 : decode prog_27_method_3_code 5 = .ok (.i2d, 1) := by decide +kernel
theorem d1_6 : decode prog_27_method_3_code 6 = .ok (.dconst 1, 1) := by decide +kernel
theorem d1_7 : decode prog_27_method_3_code 7 = .ok (.dload_n 1, 1) := by decide +kernel
theorem d1_8 : decode prog_27_method_3_code 8 = .ok (.dload_n 1, 1) := by decide +kernel
theorem d1_9 : decode prog_27_method_3_code 9 = .ok (.dmul, 1) := by decide +kernel
theorem d1_10 : decode prog_27_method_3_code 10 = .ok (.dload_n 1, 1) := by decide +kernel
theorem d1_11 : decode prog_27_method_3_code 11 = .ok (.dmul, 1) := by decide +kernel
theorem d1_12 : decode prog_27_method_3_code 12 = .ok (.dsub, 1) := by decide +kernel
theorem d1_13 : decode prog_27_method_3_code 13 = .ok (.dmul, 1) := by decide +kernel
theorem d1_14 : decode prog_27_method_3_code 14 = .ok (.dcmp .l, 1) := by decide +kernel
theorem d1_15 : decode prog_27_method_3_code 15 = .ok (.ifCond .le 7, 3) := by decide +kernel
theorem d1_18 : decode prog_27_method_3_code 18 = .ok (.iconst 1, 1) := by decide +kernel
theorem d1_19 : decode prog_27_method_3_code 19 = .ok (.goto 4, 3) := by decide +kernel
theorem d1_23 : decode prog_27_method_3_code 23 = .ok (.ireturn, 1) := by decide +kernel
theorem d1_22 : decode prog_27_method_3_code 22 = .ok (.iconst 0, 1) := by decide +kernel
theorem pn_0 : plainName "com/example/libshed/libshed/limit/PriorityShedding" = true := by first | (simp [plainName, overriddenIn]; done) | decide +kernel
def Q_rm1 (Z : State) (p1 : Int32) (dd : UInt64) (h0 : Heap) (n0 : Nat) (v : Option Value) (h : Heap) (L : List Loc) : Prop := v = some (.int (own_shed p1 dd)) ∧ Fr n0 L ∧ h = h0
theorem ef_rm1 (m : MethodId) (p1 : Int32) (dd : UInt64) : entryFrame m #[(.int p1), (.double dd)] 3 = mkF m 0 #[.val (.int p1), .val (.double dd), .second] [] := by first | (simp [entryFrame, mkF, argsToLocals, Value.category]; done) | rfl
set_option maxRecDepth 65536 in
set_option maxHeartbeats 40000000 in
theorem rm1 (l : Launch) (Z : State) (a0 : Array Value) (hw : ∀ d ∈ tables_1, d.before a0 Z = true) (ws : List Jvm.Cond) (p1 : Int32) (dd : UInt64) (h0 : Heap) (n0 : Nat) (Z0 : n0 ≤ h0.size) (pf_S_com_example_libshed_libshed_limit_PriorityShedding_GROUPS : Sta Z Z.heap "com/example/libshed/libshed/limit/PriorityShedding" "GROUPS" "I" (.int (640 : Int32))) (hn1 : Jvm.Free.Fl.NoNaN64 (FP.dmul dd dd)) (hn2 : Jvm.Free.Fl.NoNaN64 (FP.dmul (FP.dmul dd dd) dd)) (hn3 : Jvm.Free.Fl.NoNaN64 (FP.dsub (FP.l2d 1) (FP.dmul (FP.dmul dd dd) dd))) (hn4 : Jvm.Free.Fl.NoNaN64 (FP.dmul (FP.l2d ((640 : Int32).toInt64)) (FP.dsub (FP.l2d 1) (FP.dmul (FP.dmul dd dd) dd)))) (X00 : Old Z n0 h0) :
    MetFree l (⟨"com/example/libshed/libshed/limit/PriorityShedding", "sheds", "(ID)Z"⟩ : MethodName) (head1 (Jvm.Cond.code (⟨"com/example/libshed/libshed/limit/PriorityShedding", "sheds", "(ID)Z"⟩ : MethodName) prog_27_method_3_code 3 (some .boolean) :: ws) ({ frames := 0, cells := 0, slots := 0, locals := 0 } : Room)) (fun a U => a = #[(.int p1), (.double dd)] ∧ Z.Warmed39 U.vm ∧ U.heap = h0) (fun _ _ _ _ _ => True) (fun _ U o U' => ∃ v L, o = .returned v ∧ Q_rm1 Z p1 dd h0 n0 v U'.heap L ∧ FrameEnd U o U' L ({ frames := 0, cells := 0, slots := 0, locals := 0 } : Room).cells ({ frames := 0, cells := 0, slots := 0, locals := 0 } : Room).slots) := by
  refine MetFree.of_bodySF (plainFor_of_name pn_0) hisR ?_
  intro p e s m args below meth c s₁ Bd hml0 hP hK
  obtain ⟨rfl, hZ, hh⟩ := hP
  have hx := Bd.exec
  have hby := Bd.bytes
  have hml : c.maxLocals = 3 := hml0
  have hown : s.vm.findClass "com/example/libshed/libshed/limit/PriorityShedding" = some m.cls := findClass_of_methodNamed Bd.named
  have hnm := (name_of_methodNamed Bd.named Bd.method).1
  have X0 : Stand p l e ({ frames := 0, cells := 0, slots := 0, locals := 0 } : Room) s m #[(.int p1), (.double dd)] below meth c s₁ [] 0 0 := Stand.of_body Bd
  have e0 : s₁.heap = h0 := by rw [← hh, Bd.state]; rfl
  have N0 := Fr.nil n0
  show Goes p e below s (Q_rm1 Z p1 dd h0 n0) ({ frames := 0, cells := 0, slots := 0, locals := 0 } : Room).cells ({ frames := 0, cells := 0, slots := 0, locals := 0 } : Room).slots (s₁.setTop (entryFrame m #[(.int p1), (.double dd)] 3))
  refine Goes.pre (fun t kt => castTop (ef_rm1 m p1 dd) kt) ?_
  show Goes p e below s _ _ _ (s₁.setTop (mkF m 0 #[.val (.int p1), .val (.double dd), .second] []))
  refine Goes.pre (fun t kt => XS.iloadN X0.here hx rfl (hb hby d1_0) rfl kt) ?_
  show Goes p e below s _ _ _ (s₁.setTop (mkF m 1 #[.val (.int p1), .val (.double dd), .second] [(.int p1)]))
  refine Goes.pre (fun t kt => XS.i2dS X0.here hx rfl (hb hby d1_1) rfl (v := FP.l2d p1.toInt64) (i2d_w _) kt) ?_
  show Goes p e below s _ _ _ (s₁.setTop (mkF m 2 #[.val (.int p1), .val (.double dd), .second] [(.double (FP.l2d p1.toInt64))]))
  obtain ⟨T1, X1, e1, st1⟩ := getS2 X0 hx hZ hown (host := "") (Or.inl (hw _ (List.mem_of_getElem? (i := 9) rfl))) Via.refl e0 (pf_S_com_example_libshed_libshed_limit_PriorityShedding_GROUPS.ext X00.2) (g := (mkF m 2 #[.val (.int p1), .val (.double dd), .second] [(.double (FP.l2d p1.toInt64))])) rfl (hb hby d1_2)
  refine Goes.pre st1 ?_
  show Goes p e below s _ _ _ (T1.setTop (mkF m 5 #[.val (.int p1), .val (.double dd), .second] [(.int (640 : Int32)), (.double (FP.l2d p1.toInt64))]))
  refine Goes.pre (fun t kt => XS.i2dS X1.here hx rfl (hb hby d1_5) rfl (v := FP.l2d (640 : Int32).toInt64) (i2d_w _) kt) ?_
  show Goes p e below s _ _ _ (T1.setTop (mkF m 6 #[.val (.int p1), .val (.double dd), .second] [(.double (FP.l2d (640 : Int32).toInt64)), (.double (FP.l2d p1.toInt64))]))
  refine Goes.pre (fun t kt => XS.dconst1 X1.here hx rfl (hb hby d1_6) (v := (FP.l2d 1)) (by decide +kernel) kt) ?_
  show Goes p e below s _ _ _ (T1.setTop (mkF m 7 #[.val (.int p1), .val (.double dd), .second] [(.double (FP.l2d 1)), (.double (FP.l2d (640 : Int32).toInt64)), (.double (FP.l2d p1.toInt64))]))
  refine Goes.pre (fun t kt => XS.dloadN X1.here hx rfl (hb hby d1_7) rfl kt) ?_
  show Goes p e below s _ _ _ (T1.setTop (mkF m 8 #[.val (.int p1), .val (.double dd), .second] [(.double dd), (.double (FP.l2d 1)), (.double (FP.l2d (640 : Int32).toInt64)), (.double (FP.l2d p1.toInt64))]))
  refine Goes.pre (fun t kt => XS.dloadN X1.here hx rfl (hb hby d1_8) rfl kt) ?_
  show Goes p e below s _ _ _ (T1.setTop (mkF m 9 #[.val (.int p1), .val (.double dd), .second] [(.double dd), (.double dd), (.double (FP.l2d 1)), (.double (FP.l2d (640 : Int32).toInt64)), (.double (FP.l2d p1.toInt64))]))
  refine Goes.pre (fun t kt => XS.dmulS X1.here hx rfl (hb hby d1_9) rfl hn1 (v := (FP.dmul dd dd)) rfl kt) ?_
  show Goes p e below s _ _ _ (T1.setTop (mkF m 10 #[.val (.int p1), .val (.double dd), .second] [(.double (FP.dmul dd dd)), (.double (FP.l2d 1)), (.double (FP.l2d (640 : Int32).toInt64)), (.double (FP.l2d p1.toInt64))]))
  refine Goes.pre (fun t kt => XS.dloadN X1.here hx rfl (hb hby d1_10) rfl kt) ?_
  show Goes p e below s _ _ _ (T1.setTop (mkF m 11 #[.val (.int p1), .val (.double dd), .second] [(.double dd), (.double (FP.dmul dd dd)), (.double (FP.l2d 1)), (.double (FP.l2d (640 : Int32).toInt64)), (.double (FP.l2d p1.toInt64))]))
  refine Goes.pre (fun t kt => XS.dmulS X1.here hx rfl (hb hby d1_11) rfl hn2 (v := (FP.dmul (FP.dmul dd dd) dd)) rfl kt) ?_
  show Goes p e below s _ _ _ (T1.setTop (mkF m 12 #[.val (.int p1), .val (.double dd), .second] [(.double (FP.dmul (FP.dmul dd dd) dd)), (.double (FP.l2d 1)), (.double (FP.l2d (640 : Int32).toInt64)), (.double (FP.l2d p1.toInt64))]))
  refine Goes.pre (fun t kt => XS.dsubS X1.here hx rfl (hb hby d1_12) rfl hn3 (v := (FP.dsub (FP.l2d 1) (FP.dmul (FP.dmul dd dd) dd))) rfl kt) ?_
  show Goes p e below s _ _ _ (T1.setTop (mkF m 13 #[.val (.int p1), .val (.double dd), .second] [(.double (FP.dsub (FP.l2d 1) (FP.dmul (FP.dmul dd dd) dd))), (.double (FP.l2d (640 : Int32).toInt64)), (.double (FP.l2d p1.toInt64))]))
  refine Goes.pre (fun t kt => XS.dmulS X1.here hx rfl (hb hby d1_13) rfl hn4 (v := (FP.dmul (FP.l2d (640 : Int32).toInt64) (FP.dsub (FP.l2d 1) (FP.dmul (FP.dmul dd dd) dd)))) rfl kt) ?_
  show Goes p e below s _ _ _ (T1.setTop (mkF m 14 #[.val (.int p1), .val (.double dd), .second] [(.double (FP.dmul (FP.l2d (640 : Int32).toInt64) (FP.dsub (FP.l2d 1) (FP.dmul (FP.dmul dd dd) dd)))), (.double (FP.l2d p1.toInt64))]))
  refine Goes.pre (fun t kt => XS.dcmpS X1.here hx rfl (hb hby d1_14) rfl (v := (cmpValue (FP.dcmp (FP.l2d p1.toInt64) (FP.dmul (FP.l2d (640 : Int32).toInt64) (FP.dsub (FP.l2d 1) (FP.dmul (FP.dmul dd dd) dd)))) .l)) rfl kt) ?_
  show Goes p e below s _ _ _ (T1.setTop (mkF m 15 #[.val (.int p1), .val (.double dd), .second] [(.int (cmpValue (FP.dcmp (FP.l2d p1.toInt64) (FP.dmul (FP.l2d (640 : Int32).toInt64) (FP.dsub (FP.l2d 1) (FP.dmul (FP.dmul dd dd) dd)))) .l))]))
  by_cases hc15 : (0 : Int32) < (cmpValue (FP.dcmp (FP.l2d p1.toInt64) (FP.dmul (FP.l2d (640 : Int32).toInt64) (FP.dsub (FP.l2d 1) (FP.dmul (FP.dmul dd dd) dd)))) .l)
  · refine Goes.pre (fun t kt => XS.ifNo X1.here hx rfl (hb hby d1_15) rfl (Jvm.Free.XT.i0_le_f (hc15)) kt) ?_
    show Goes p e below s _ _ _ (T1.setTop (mkF m 18 #[.val (.int p1), .val (.double dd), .second] []))
    refine Goes.pre (fun t kt => XS.iconst X1.here hx rfl (hb hby d1_18) kt) ?_
    show Goes p e below s _ _ _ (T1.setTop (mkF m 19 #[.val (.int p1), .val (.double dd), .second] [(.int (1 : Int32))]))
    refine Goes.pre (fun t kt => XS.goto X1.here hx rfl (pc0 := 19) (pc' := 23) rfl (hb hby d1_19) (by decide) (by decide) kt) ?_
    show Goes p e below s _ _ _ (T1.setTop (mkF m 23 #[.val (.int p1), .val (.double dd), .second] [(.int (1 : Int32))]))
    refine Goes.ret X1 (some (.int (1 : Int32))) (fun h => by rw [Bd.returns] at h; cases h) (BodyLoose.notSynchronized Bd) (by decide) (by decide) (fun fs hr => retN X1 hx (t := .boolean) Bd.returns (by simp) (hb hby d1_23) hr) ?_
    show Q_rm1 Z p1 dd h0 n0 _ T1.heap _
    rw [e1]
    exact ⟨(by unfold own_shed own_thr own_cub; rw [if_pos hc15]), N0, rfl⟩
  · refine Goes.pre (fun t kt => XS.ifYes X1.here hx rfl (pc0 := 15) (pc' := 22) rfl (hb hby d1_15) rfl (Jvm.Free.XT.i0_le_t (hc15)) (by decide) (by decide) kt) ?_
    show Goes p e below s _ _ _ (T1.setTop (mkF m 22 #[.val (.int p1), .val (.double dd), .second] []))
    refine Goes.pre (fun t kt => XS.iconst X1.here hx rfl (hb hby d1_22) kt) ?_
    show Goes p e below s _ _ _ (T1.setTop (mkF m 23 #[.val (.int p1), .val (.double dd), .second] [(.int (0 : Int32))]))
    refine Goes.ret X1 (some (.int (0 : Int32))) (fun h => by rw [Bd.returns] at h; cases h) (BodyLoose.notSynchronized Bd) (by decide) (by decide) (fun fs hr => retN X1 hx (t := .boolean) Bd.returns (by simp) (hb hby d1_23) hr) ?_
    show Q_rm1 Z p1 dd h0 n0 _ T1.heap _
    rw [e1]
    exact ⟨(by unfold own_shed own_thr own_cub; rw [if_neg hc15]), N0, rfl⟩
theorem pd_1 : parseMethodDescriptor "(ID)Z" = some ⟨[.int, .double], some .boolean⟩ := by decide +kernel
theorem pn_2 : plainName "com/example/libshed/libshed/limit/PrioritySheddingShedsPinLaw" = true := by first | (simp [plainName, overriddenIn]; done) | decide +kernel
def Q_rm0 (Z : State) (p1 : Int32) (p2 : Int32) (p3 : Int32) (h0 : Heap) (n0 : Nat) (v : Option Value) (h : Heap) (L : List Loc) : Prop := v = some (.int (1 : Int32)) ∧ Fr n0 L
theorem ef_rm0 (m : MethodId) (p1 : Int32) (p2 : Int32) (p3 : Int32) : entryFrame m #[(.int p1), (.int p2), (.int p3)] maxLocals = mkF m 0 #[.val (.int p1), .val (.int p2), .val (.int p3), .unset, .unset, .unset, .unset, .unset, .unset, .unset, .unset, .unset, .unset] [] := by first | (simp [entryFrame, mkF, argsToLocals, Value.category, maxLocals]; done) | rfl
set_option maxRecDepth 65536 in
set_option maxHeartbeats 40000000 in
theorem rm0 (l : Launch) (Z : State) (a0 : Array Value) (hw : ∀ d ∈ tables_1, d.before a0 Z = true) (ws : List Jvm.Cond) (p1 : Int32) (p2 : Int32) (p3 : Int32) (h0 : Heap) (n0 : Nat) (Z0 : n0 ≤ h0.size) (pf_S_com_example_libshed_libshed_limit_PriorityShedding_GROUPS : Sta Z Z.heap "com/example/libshed/libshed/limit/PriorityShedding" "GROUPS" "I" (.int (640 : Int32))) (X00 : Old Z n0 h0) :
    MetFree l x (head1 (Jvm.Cond.code x code maxLocals ret :: ws) room_1) (fun a U => a = #[(.int p1), (.int p2), (.int p3)] ∧ Z.Warmed39 U.vm ∧ U.heap = h0) (fun _ _ _ _ _ => True) (fun _ U o U' => ∃ v L, o = .returned v ∧ Q_rm0 Z p1 p2 p3 h0 n0 v U'.heap L ∧ FrameEnd U o U' L room_1.cells room_1.slots) := by
  refine MetFree.of_bodySF (plainFor_of_name pn_2) hisR ?_
  intro p e s m args below meth c s₁ Bd hml0 hP hK
  obtain ⟨rfl, hZ, hh⟩ := hP
  have hx := Bd.exec
  have hby := Bd.bytes
  have hml : c.maxLocals = 13 := hml0
  have hown : s.vm.findClass "com/example/libshed/libshed/limit/PrioritySheddingShedsPinLaw" = some m.cls := findClass_of_methodNamed Bd.named
  have hnm := (name_of_methodNamed Bd.named Bd.method).1
  have X0 : Stand p l e room_1 s m #[(.int p1), (.int p2), (.int p3)] below meth c s₁ [] 0 0 := Stand.of_body Bd
  have e0 : s₁.heap = h0 := by rw [← hh, Bd.state]; rfl
  have N0 := Fr.nil n0
  show Goes p e below s (Q_rm0 Z p1 p2 p3 h0 n0) room_1.cells room_1.slots (s₁.setTop (entryFrame m #[(.int p1), (.int p2), (.int p3)] maxLocals))
  refine Goes.pre (fun t kt => castTop (ef_rm0 m p1 p2 p3) kt) ?_
  show Goes p e below s _ _ _ (s₁.setTop (mkF m 0 #[.val (.int p1), .val (.int p2), .val (.int p3), .unset, .unset, .unset, .unset, .unset, .unset, .unset, .unset, .unset, .unset] []))
  refine Goes.pre (fun t kt => XS.iloadN X0.here hx rfl (hb hby at_0) rfl kt) ?_
  show Goes p e below s _ _ _ (s₁.setTop (mkF m 1 #[.val (.int p1), .val (.int p2), .val (.int p3), .unset, .unset, .unset, .unset, .unset, .unset, .unset, .unset, .unset, .unset] [(.int p3)]))
  refine Goes.pre (fun t kt => XS.iconst X0.here hx rfl (hb hby at_1) kt) ?_
  show Goes p e below s _ _ _ (s₁.setTop (mkF m 2 #[.val (.int p1), .val (.int p2), .val (.int p3), .unset, .unset, .unset, .unset, .unset, .unset, .unset, .unset, .unset, .unset] [(.int (1 : Int32)), (.int p3)]))
  refine Goes.pre (fun t kt => XS.iand X0.here hx rfl (hb hby at_2) rfl kt) ?_
  show Goes p e below s _ _ _ (s₁.setTop (mkF m 3 #[.val (.int p1), .val (.int p2), .val (.int p3), .unset, .unset, .unset, .unset, .unset, .unset, .unset, .unset, .unset, .unset] [(.int (p3 &&& (1 : Int32)))]))
  by_cases hc3 : (p3 &&& (1 : Int32)) = (0 : Int32)
  · refine Goes.pre (fun t kt => XS.ifYes X0.here hx rfl (pc0 := 3) (pc' := 10) rfl (hb hby at_3) rfl (Jvm.Free.XT.i0_eq_t (hc3)) (by decide) (by decide) kt) ?_
    show Goes p e below s _ _ _ (s₁.setTop (mkF m 10 #[.val (.int p1), .val (.int p2), .val (.int p3), .unset, .unset, .unset, .unset, .unset, .unset, .unset, .unset, .unset, .unset] []))
    refine Goes.pre (fun t kt => XS.iconst X0.here hx rfl (hb hby at_10) kt) ?_
    show Goes p e below s _ _ _ (s₁.setTop (mkF m 11 #[.val (.int p1), .val (.int p2), .val (.int p3), .unset, .unset, .unset, .unset, .unset, .unset, .unset, .unset, .unset, .unset] [(.int (0 : Int32))]))
    refine Goes.pre (fun t kt => XS.istoreN X0.here hx rfl (hb hby at_11) rfl (l' := #[.val (.int p1), .val (.int p2), .val (.int p3), .val (.int (0 : Int32)), .unset, .unset, .unset, .unset, .unset, .unset, .unset, .unset, .unset]) rfl kt) ?_
    show Goes p e below s _ _ _ (s₁.setTop (mkF m 12 #[.val (.int p1), .val (.int p2), .val (.int p3), .val (.int (0 : Int32)), .unset, .unset, .unset, .unset, .unset, .unset, .unset, .unset, .unset] []))
    refine Goes.pre (fun t kt => XS.iloadN X0.here hx rfl (hb hby at_12) rfl kt) ?_
    show Goes p e below s _ _ _ (s₁.setTop (mkF m 13 #[.val (.int p1), .val (.int p2), .val (.int p3), .val (.int (0 : Int32)), .unset, .unset, .unset, .unset, .unset, .unset, .unset, .unset, .unset] [(.int (0 : Int32))]))
    refine Goes.pre (fun t kt => XS.ifYes X0.here hx rfl (pc0 := 13) (pc' := 70) rfl (hb hby at_13) rfl (Jvm.Free.XT.i0_eq_t ((by decide))) (by decide) (by decide) kt) ?_
    show Goes p e below s _ _ _ (s₁.setTop (mkF m 70 #[.val (.int p1), .val (.int p2), .val (.int p3), .val (.int (0 : Int32)), .unset, .unset, .unset, .unset, .unset, .unset, .unset, .unset, .unset] []))
    refine Goes.pre (fun t kt => XS.iloadN X0.here hx rfl (hb hby at_70) rfl kt) ?_
    show Goes p e below s _ _ _ (s₁.setTop (mkF m 71 #[.val (.int p1), .val (.int p2), .val (.int p3), .val (.int (0 : Int32)), .unset, .unset, .unset, .unset, .unset, .unset, .unset, .unset, .unset] [(.int p2)]))
    refine Goes.pre (X0.ldcInt hx hown (mvT hZ (hw _ (List.mem_of_getElem? (i := 0) rfl))) (g := (mkF m 71 #[.val (.int p1), .val (.int p2), .val (.int p3), .val (.int (0 : Int32)), .unset, .unset, .unset, .unset, .unset, .unset, .unset, .unset, .unset] [(.int p2)])) rfl (hb hby at_71)) ?_
    show Goes p e below s _ _ _ (s₁.setTop (mkF m 73 #[.val (.int p1), .val (.int p2), .val (.int p3), .val (.int (0 : Int32)), .unset, .unset, .unset, .unset, .unset, .unset, .unset, .unset, .unset] [(.int (2147483647 : Int32)), (.int p2)]))
    refine Goes.pre (fun t kt => XS.iand X0.here hx rfl (hb hby at_73) rfl kt) ?_
    show Goes p e below s _ _ _ (s₁.setTop (mkF m 74 #[.val (.int p1), .val (.int p2), .val (.int p3), .val (.int (0 : Int32)), .unset, .unset, .unset, .unset, .unset, .unset, .unset, .unset, .unset] [(.int (p2 &&& (2147483647 : Int32)))]))
    refine Goes.pre (fun t kt => XS.sipush X0.here hx rfl (hb hby at_74) kt) ?_
    show Goes p e below s _ _ _ (s₁.setTop (mkF m 77 #[.val (.int p1), .val (.int p2), .val (.int p3), .val (.int (0 : Int32)), .unset, .unset, .unset, .unset, .unset, .unset, .unset, .unset, .unset] [(.int (1025 : Int32)), (.int (p2 &&& (2147483647 : Int32)))]))
    refine Goes.pre (fun t kt => Jvm.RoadKit.iremM X0 hx rfl (hb hby at_77) rfl (by decide) kt) ?_
    show Goes p e below s _ _ _ (s₁.setTop (mkF m 78 #[.val (.int p1), .val (.int p2), .val (.int p3), .val (.int (0 : Int32)), .unset, .unset, .unset, .unset, .unset, .unset, .unset, .unset, .unset] [(.int ((p2 &&& (2147483647 : Int32)) % (1025 : Int32)))]))
    refine Goes.pre (fun t kt => XS.istore X0.here hx rfl (hb hby at_78) rfl (l' := #[.val (.int p1), .val (.int p2), .val (.int p3), .val (.int (0 : Int32)), .val (.int ((p2 &&& (2147483647 : Int32)) % (1025 : Int32))), .unset, .unset, .unset, .unset, .unset, .unset, .unset, .unset]) rfl kt) ?_
    show Goes p e below s _ _ _ (s₁.setTop (mkF m 80 #[.val (.int p1), .val (.int p2), .val (.int p3), .val (.int (0 : Int32)), .val (.int ((p2 &&& (2147483647 : Int32)) % (1025 : Int32))), .unset, .unset, .unset, .unset, .unset, .unset, .unset, .unset] []))
    refine Goes.pre (fun t kt => XS.iload X0.here hx rfl (hb hby at_80) rfl kt) ?_
    show Goes p e below s _ _ _ (s₁.setTop (mkF m 82 #[.val (.int p1), .val (.int p2), .val (.int p3), .val (.int (0 : Int32)), .val (.int ((p2 &&& (2147483647 : Int32)) % (1025 : Int32))), .unset, .unset, .unset, .unset, .unset, .unset, .unset, .unset] [(.int ((p2 &&& (2147483647 : Int32)) % (1025 : Int32)))]))
    refine Goes.pre (fun t kt => XS.i2dS X0.here hx rfl (hb hby at_82) rfl (v := FP.l2d ((p2 &&& (2147483647 : Int32)) % (1025 : Int32)).toInt64) (i2d_w _) kt) ?_
    show Goes p e below s _ _ _ (s₁.setTop (mkF m 83 #[.val (.int p1), .val (.int p2), .val (.int p3), .val (.int (0 : Int32)), .val (.int ((p2 &&& (2147483647 : Int32)) % (1025 : Int32))), .unset, .unset, .unset, .unset, .unset, .unset, .unset, .unset] [(.double (FP.l2d ((p2 &&& (2147483647 : Int32)) % (1025 : Int32)).toInt64))]))
    refine Goes.pre (X0.ldc2DoubleC hx hown (mvT hZ (hw _ (List.mem_of_getElem? (i := 1) rfl))) (g := (mkF m 83 #[.val (.int p1), .val (.int p2), .val (.int p3), .val (.int (0 : Int32)), .val (.int ((p2 &&& (2147483647 : Int32)) % (1025 : Int32))), .unset, .unset, .unset, .unset, .unset, .unset, .unset, .unset] [(.double (FP.l2d ((p2 &&& (2147483647 : Int32)) % (1025 : Int32)).toInt64))])) rfl (hb hby at_83)) ?_
    show Goes p e below s _ _ _ (s₁.setTop (mkF m 86 #[.val (.int p1), .val (.int p2), .val (.int p3), .val (.int (0 : Int32)), .val (.int ((p2 &&& (2147483647 : Int32)) % (1025 : Int32))), .unset, .unset, .unset, .unset, .unset, .unset, .unset, .unset] [(.double (4652218415073722368 : UInt64)), (.double (FP.l2d ((p2 &&& (2147483647 : Int32)) % (1025 : Int32)).toInt64))]))
    obtain ⟨nP, nP1, nP2, nP3, nP4, nP5⟩ := own_pos p2 p1
    refine Goes.pre (fun t kt => XS.ddivS X0.here hx rfl (hb hby at_86) rfl (nP2.symm ▸ (own_fine_nn nP3).1) (v := (own_load nP)) nP2 kt) ?_
    show Goes p e below s _ _ _ (s₁.setTop (mkF m 87 #[.val (.int p1), .val (.int p2), .val (.int p3), .val (.int (0 : Int32)), .val (.int ((p2 &&& (2147483647 : Int32)) % (1025 : Int32))), .unset, .unset, .unset, .unset, .unset, .unset, .unset, .unset] [(.double (own_load nP))]))
    refine Goes.pre (fun t kt => XS.dstore X0.here hx rfl (hb hby at_87) rfl (l' := #[.val (.int p1), .val (.int p2), .val (.int p3), .val (.int (0 : Int32)), .val (.int ((p2 &&& (2147483647 : Int32)) % (1025 : Int32))), .val (.double (own_load nP)), .second, .unset, .unset, .unset, .unset, .unset, .unset]) rfl kt) ?_
    show Goes p e below s _ _ _ (s₁.setTop (mkF m 89 #[.val (.int p1), .val (.int p2), .val (.int p3), .val (.int (0 : Int32)), .val (.int ((p2 &&& (2147483647 : Int32)) % (1025 : Int32))), .val (.double (own_load nP)), .second, .unset, .unset, .unset, .unset, .unset, .unset] []))
    refine Goes.pre (fun t kt => XS.iload X0.here hx rfl (hb hby at_89) rfl kt) ?_
    show Goes p e below s _ _ _ (s₁.setTop (mkF m 91 #[.val (.int p1), .val (.int p2), .val (.int p3), .val (.int (0 : Int32)), .val (.int ((p2 &&& (2147483647 : Int32)) % (1025 : Int32))), .val (.double (own_load nP)), .second, .unset, .unset, .unset, .unset, .unset, .unset] [(.int ((p2 &&& (2147483647 : Int32)) % (1025 : Int32)))]))
    refine Goes.pre (fun t kt => XS.i2l X0.here hx rfl (hb hby at_91) rfl kt) ?_
    show Goes p e below s _ _ _ (s₁.setTop (mkF m 92 #[.val (.int p1), .val (.int p2), .val (.int p3), .val (.int (0 : Int32)), .val (.int ((p2 &&& (2147483647 : Int32)) % (1025 : Int32))), .val (.double (own_load nP)), .second, .unset, .unset, .unset, .unset, .unset, .unset] [(.long (((p2 &&& (2147483647 : Int32)) % (1025 : Int32)).toInt64))]))
    refine Goes.pre (fun t kt => XS.lstore X0.here hx rfl (hb hby at_92) rfl (l' := #[.val (.int p1), .val (.int p2), .val (.int p3), .val (.int (0 : Int32)), .val (.int ((p2 &&& (2147483647 : Int32)) % (1025 : Int32))), .val (.double (own_load nP)), .second, .val (.long (((p2 &&& (2147483647 : Int32)) % (1025 : Int32)).toInt64)), .second, .unset, .unset, .unset, .unset]) rfl kt) ?_
    show Goes p e below s _ _ _ (s₁.setTop (mkF m 94 #[.val (.int p1), .val (.int p2), .val (.int p3), .val (.int (0 : Int32)), .val (.int ((p2 &&& (2147483647 : Int32)) % (1025 : Int32))), .val (.double (own_load nP)), .second, .val (.long (((p2 &&& (2147483647 : Int32)) % (1025 : Int32)).toInt64)), .second, .unset, .unset, .unset, .unset] []))
    refine Goes.pre (fun t kt => XS.lload X0.here hx rfl (hb hby at_94) rfl kt) ?_
    show Goes p e below s _ _ _ (s₁.setTop (mkF m 96 #[.val (.int p1), .val (.int p2), .val (.int p3), .val (.int (0 : Int32)), .val (.int ((p2 &&& (2147483647 : Int32)) % (1025 : Int32))), .val (.double (own_load nP)), .second, .val (.long (((p2 &&& (2147483647 : Int32)) % (1025 : Int32)).toInt64)), .second, .unset, .unset, .unset, .unset] [(.long (((p2 &&& (2147483647 : Int32)) % (1025 : Int32)).toInt64))]))
    refine Goes.pre (fun t kt => XS.lload X0.here hx rfl (hb hby at_96) rfl kt) ?_
    show Goes p e below s _ _ _ (s₁.setTop (mkF m 98 #[.val (.int p1), .val (.int p2), .val (.int p3), .val (.int (0 : Int32)), .val (.int ((p2 &&& (2147483647 : Int32)) % (1025 : Int32))), .val (.double (own_load nP)), .second, .val (.long (((p2 &&& (2147483647 : Int32)) % (1025 : Int32)).toInt64)), .second, .unset, .unset, .unset, .unset] [(.long (((p2 &&& (2147483647 : Int32)) % (1025 : Int32)).toInt64)), (.long (((p2 &&& (2147483647 : Int32)) % (1025 : Int32)).toInt64))]))
    refine Goes.pre (fun t kt => XS.lmul X0.here hx rfl (hb hby at_98) rfl kt) ?_
    show Goes p e below s _ _ _ (s₁.setTop (mkF m 99 #[.val (.int p1), .val (.int p2), .val (.int p3), .val (.int (0 : Int32)), .val (.int ((p2 &&& (2147483647 : Int32)) % (1025 : Int32))), .val (.double (own_load nP)), .second, .val (.long (((p2 &&& (2147483647 : Int32)) % (1025 : Int32)).toInt64)), .second, .unset, .unset, .unset, .unset] [(.long ((((p2 &&& (2147483647 : Int32)) % (1025 : Int32)).toInt64) * (((p2 &&& (2147483647 : Int32)) % (1025 : Int32)).toInt64)))]))
    refine Goes.pre (fun t kt => XS.lload X0.here hx rfl (hb hby at_99) rfl kt) ?_
    show Goes p e below s _ _ _ (s₁.setTop (mkF m 101 #[.val (.int p1), .val (.int p2), .val (.int p3), .val (.int (0 : Int32)), .val (.int ((p2 &&& (2147483647 : Int32)) % (1025 : Int32))), .val (.double (own_load nP)), .second, .val (.long (((p2 &&& (2147483647 : Int32)) % (1025 : Int32)).toInt64)), .second, .unset, .unset, .unset, .unset] [(.long (((p2 &&& (2147483647 : Int32)) % (1025 : Int32)).toInt64)), (.long ((((p2 &&& (2147483647 : Int32)) % (1025 : Int32)).toInt64) * (((p2 &&& (2147483647 : Int32)) % (1025 : Int32)).toInt64)))]))
    refine Goes.pre (fun t kt => XS.lmul X0.here hx rfl (hb hby at_101) rfl kt) ?_
    show Goes p e below s _ _ _ (s₁.setTop (mkF m 102 #[.val (.int p1), .val (.int p2), .val (.int p3), .val (.int (0 : Int32)), .val (.int ((p2 &&& (2147483647 : Int32)) % (1025 : Int32))), .val (.double (own_load nP)), .second, .val (.long (((p2 &&& (2147483647 : Int32)) % (1025 : Int32)).toInt64)), .second, .unset, .unset, .unset, .unset] [(.long (((((p2 &&& (2147483647 : Int32)) % (1025 : Int32)).toInt64) * (((p2 &&& (2147483647 : Int32)) % (1025 : Int32)).toInt64)) * (((p2 &&& (2147483647 : Int32)) % (1025 : Int32)).toInt64)))]))
    refine Goes.pre (fun t kt => XS.lstore X0.here hx rfl (hb hby at_102) rfl (l' := #[.val (.int p1), .val (.int p2), .val (.int p3), .val (.int (0 : Int32)), .val (.int ((p2 &&& (2147483647 : Int32)) % (1025 : Int32))), .val (.double (own_load nP)), .second, .val (.long (((p2 &&& (2147483647 : Int32)) % (1025 : Int32)).toInt64)), .second, .val (.long (((((p2 &&& (2147483647 : Int32)) % (1025 : Int32)).toInt64) * (((p2 &&& (2147483647 : Int32)) % (1025 : Int32)).toInt64)) * (((p2 &&& (2147483647 : Int32)) % (1025 : Int32)).toInt64))), .second, .unset, .unset]) rfl kt) ?_
    show Goes p e below s _ _ _ (s₁.setTop (mkF m 104 #[.val (.int p1), .val (.int p2), .val (.int p3), .val (.int (0 : Int32)), .val (.int ((p2 &&& (2147483647 : Int32)) % (1025 : Int32))), .val (.double (own_load nP)), .second, .val (.long (((p2 &&& (2147483647 : Int32)) % (1025 : Int32)).toInt64)), .second, .val (.long (((((p2 &&& (2147483647 : Int32)) % (1025 : Int32)).toInt64) * (((p2 &&& (2147483647 : Int32)) % (1025 : Int32)).toInt64)) * (((p2 &&& (2147483647 : Int32)) % (1025 : Int32)).toInt64))), .second, .unset, .unset] []))
    refine Goes.pre (fun t kt => XS.iloadN X0.here hx rfl (hb hby at_104) rfl kt) ?_
    show Goes p e below s _ _ _ (s₁.setTop (mkF m 105 #[.val (.int p1), .val (.int p2), .val (.int p3), .val (.int (0 : Int32)), .val (.int ((p2 &&& (2147483647 : Int32)) % (1025 : Int32))), .val (.double (own_load nP)), .second, .val (.long (((p2 &&& (2147483647 : Int32)) % (1025 : Int32)).toInt64)), .second, .val (.long (((((p2 &&& (2147483647 : Int32)) % (1025 : Int32)).toInt64) * (((p2 &&& (2147483647 : Int32)) % (1025 : Int32)).toInt64)) * (((p2 &&& (2147483647 : Int32)) % (1025 : Int32)).toInt64))), .second, .unset, .unset] [(.int p1)]))
    refine Goes.pre (fun t kt => XS.i2l X0.here hx rfl (hb hby at_105) rfl kt) ?_
    show Goes p e below s _ _ _ (s₁.setTop (mkF m 106 #[.val (.int p1), .val (.int p2), .val (.int p3), .val (.int (0 : Int32)), .val (.int ((p2 &&& (2147483647 : Int32)) % (1025 : Int32))), .val (.double (own_load nP)), .second, .val (.long (((p2 &&& (2147483647 : Int32)) % (1025 : Int32)).toInt64)), .second, .val (.long (((((p2 &&& (2147483647 : Int32)) % (1025 : Int32)).toInt64) * (((p2 &&& (2147483647 : Int32)) % (1025 : Int32)).toInt64)) * (((p2 &&& (2147483647 : Int32)) % (1025 : Int32)).toInt64))), .second, .unset, .unset] [(.long (p1.toInt64))]))
    refine Goes.pre (X0.ldc2Long hx hown (mvT hZ (hw _ (List.mem_of_getElem? (i := 2) rfl))) (g := (mkF m 106 #[.val (.int p1), .val (.int p2), .val (.int p3), .val (.int (0 : Int32)), .val (.int ((p2 &&& (2147483647 : Int32)) % (1025 : Int32))), .val (.double (own_load nP)), .second, .val (.long (((p2 &&& (2147483647 : Int32)) % (1025 : Int32)).toInt64)), .second, .val (.long (((((p2 &&& (2147483647 : Int32)) % (1025 : Int32)).toInt64) * (((p2 &&& (2147483647 : Int32)) % (1025 : Int32)).toInt64)) * (((p2 &&& (2147483647 : Int32)) % (1025 : Int32)).toInt64))), .second, .unset, .unset] [(.long (p1.toInt64))])) rfl (hb hby at_106)) ?_
    show Goes p e below s _ _ _ (s₁.setTop (mkF m 109 #[.val (.int p1), .val (.int p2), .val (.int p3), .val (.int (0 : Int32)), .val (.int ((p2 &&& (2147483647 : Int32)) % (1025 : Int32))), .val (.double (own_load nP)), .second, .val (.long (((p2 &&& (2147483647 : Int32)) % (1025 : Int32)).toInt64)), .second, .val (.long (((((p2 &&& (2147483647 : Int32)) % (1025 : Int32)).toInt64) * (((p2 &&& (2147483647 : Int32)) % (1025 : Int32)).toInt64)) * (((p2 &&& (2147483647 : Int32)) % (1025 : Int32)).toInt64))), .second, .unset, .unset] [(.long (8388608 : Int64)), (.long (p1.toInt64))]))
    refine Goes.pre (fun t kt => XS.lmul X0.here hx rfl (hb hby at_109) rfl kt) ?_
    show Goes p e below s _ _ _ (s₁.setTop (mkF m 110 #[.val (.int p1), .val (.int p2), .val (.int p3), .val (.int (0 : Int32)), .val (.int ((p2 &&& (2147483647 : Int32)) % (1025 : Int32))), .val (.double (own_load nP)), .second, .val (.long (((p2 &&& (2147483647 : Int32)) % (1025 : Int32)).toInt64)), .second, .val (.long (((((p2 &&& (2147483647 : Int32)) % (1025 : Int32)).toInt64) * (((p2 &&& (2147483647 : Int32)) % (1025 : Int32)).toInt64)) * (((p2 &&& (2147483647 : Int32)) % (1025 : Int32)).toInt64))), .second, .unset, .unset] [(.long ((p1.toInt64) * (8388608 : Int64)))]))
    refine Goes.pre (X0.ldc2Long hx hown (mvT hZ (hw _ (List.mem_of_getElem? (i := 3) rfl))) (g := (mkF m 110 #[.val (.int p1), .val (.int p2), .val (.int p3), .val (.int (0 : Int32)), .val (.int ((p2 &&& (2147483647 : Int32)) % (1025 : Int32))), .val (.double (own_load nP)), .second, .val (.long (((p2 &&& (2147483647 : Int32)) % (1025 : Int32)).toInt64)), .second, .val (.long (((((p2 &&& (2147483647 : Int32)) % (1025 : Int32)).toInt64) * (((p2 &&& (2147483647 : Int32)) % (1025 : Int32)).toInt64)) * (((p2 &&& (2147483647 : Int32)) % (1025 : Int32)).toInt64))), .second, .unset, .unset] [(.long ((p1.toInt64) * (8388608 : Int64)))])) rfl (hb hby at_110)) ?_
    show Goes p e below s _ _ _ (s₁.setTop (mkF m 113 #[.val (.int p1), .val (.int p2), .val (.int p3), .val (.int (0 : Int32)), .val (.int ((p2 &&& (2147483647 : Int32)) % (1025 : Int32))), .val (.double (own_load nP)), .second, .val (.long (((p2 &&& (2147483647 : Int32)) % (1025 : Int32)).toInt64)), .second, .val (.long (((((p2 &&& (2147483647 : Int32)) % (1025 : Int32)).toInt64) * (((p2 &&& (2147483647 : Int32)) % (1025 : Int32)).toInt64)) * (((p2 &&& (2147483647 : Int32)) % (1025 : Int32)).toInt64))), .second, .unset, .unset] [(.long (5 : Int64)), (.long ((p1.toInt64) * (8388608 : Int64)))]))
    refine Goes.pre (X0.ldc2Long hx hown (mvT hZ (hw _ (List.mem_of_getElem? (i := 4) rfl))) (g := (mkF m 113 #[.val (.int p1), .val (.int p2), .val (.int p3), .val (.int (0 : Int32)), .val (.int ((p2 &&& (2147483647 : Int32)) % (1025 : Int32))), .val (.double (own_load nP)), .second, .val (.long (((p2 &&& (2147483647 : Int32)) % (1025 : Int32)).toInt64)), .second, .val (.long (((((p2 &&& (2147483647 : Int32)) % (1025 : Int32)).toInt64) * (((p2 &&& (2147483647 : Int32)) % (1025 : Int32)).toInt64)) * (((p2 &&& (2147483647 : Int32)) % (1025 : Int32)).toInt64))), .second, .unset, .unset] [(.long (5 : Int64)), (.long ((p1.toInt64) * (8388608 : Int64)))])) rfl (hb hby at_113)) ?_
    show Goes p e below s _ _ _ (s₁.setTop (mkF m 116 #[.val (.int p1), .val (.int p2), .val (.int p3), .val (.int (0 : Int32)), .val (.int ((p2 &&& (2147483647 : Int32)) % (1025 : Int32))), .val (.double (own_load nP)), .second, .val (.long (((p2 &&& (2147483647 : Int32)) % (1025 : Int32)).toInt64)), .second, .val (.long (((((p2 &&& (2147483647 : Int32)) % (1025 : Int32)).toInt64) * (((p2 &&& (2147483647 : Int32)) % (1025 : Int32)).toInt64)) * (((p2 &&& (2147483647 : Int32)) % (1025 : Int32)).toInt64))), .second, .unset, .unset] [(.long (1073741824 : Int64)), (.long (5 : Int64)), (.long ((p1.toInt64) * (8388608 : Int64)))]))
    refine Goes.pre (fun t kt => XS.lload X0.here hx rfl (hb hby at_116) rfl kt) ?_
    show Goes p e below s _ _ _ (s₁.setTop (mkF m 118 #[.val (.int p1), .val (.int p2), .val (.int p3), .val (.int (0 : Int32)), .val (.int ((p2 &&& (2147483647 : Int32)) % (1025 : Int32))), .val (.double (own_load nP)), .second, .val (.long (((p2 &&& (2147483647 : Int32)) % (1025 : Int32)).toInt64)), .second, .val (.long (((((p2 &&& (2147483647 : Int32)) % (1025 : Int32)).toInt64) * (((p2 &&& (2147483647 : Int32)) % (1025 : Int32)).toInt64)) * (((p2 &&& (2147483647 : Int32)) % (1025 : Int32)).toInt64))), .second, .unset, .unset] [(.long (((((p2 &&& (2147483647 : Int32)) % (1025 : Int32)).toInt64) * (((p2 &&& (2147483647 : Int32)) % (1025 : Int32)).toInt64)) * (((p2 &&& (2147483647 : Int32)) % (1025 : Int32)).toInt64))), (.long (1073741824 : Int64)), (.long (5 : Int64)), (.long ((p1.toInt64) * (8388608 : Int64)))]))
    refine Goes.pre (fun t kt => XS.lsub X0.here hx rfl (hb hby at_118) rfl kt) ?_
    show Goes p e below s _ _ _ (s₁.setTop (mkF m 119 #[.val (.int p1), .val (.int p2), .val (.int p3), .val (.int (0 : Int32)), .val (.int ((p2 &&& (2147483647 : Int32)) % (1025 : Int32))), .val (.double (own_load nP)), .second, .val (.long (((p2 &&& (2147483647 : Int32)) % (1025 : Int32)).toInt64)), .second, .val (.long (((((p2 &&& (2147483647 : Int32)) % (1025 : Int32)).toInt64) * (((p2 &&& (2147483647 : Int32)) % (1025 : Int32)).toInt64)) * (((p2 &&& (2147483647 : Int32)) % (1025 : Int32)).toInt64))), .second, .unset, .unset] [(.long ((1073741824 : Int64) - (((((p2 &&& (2147483647 : Int32)) % (1025 : Int32)).toInt64) * (((p2 &&& (2147483647 : Int32)) % (1025 : Int32)).toInt64)) * (((p2 &&& (2147483647 : Int32)) % (1025 : Int32)).toInt64)))), (.long (5 : Int64)), (.long ((p1.toInt64) * (8388608 : Int64)))]))
    refine Goes.pre (fun t kt => XS.lmul X0.here hx rfl (hb hby at_119) rfl kt) ?_
    show Goes p e below s _ _ _ (s₁.setTop (mkF m 120 #[.val (.int p1), .val (.int p2), .val (.int p3), .val (.int (0 : Int32)), .val (.int ((p2 &&& (2147483647 : Int32)) % (1025 : Int32))), .val (.double (own_load nP)), .second, .val (.long (((p2 &&& (2147483647 : Int32)) % (1025 : Int32)).toInt64)), .second, .val (.long (((((p2 &&& (2147483647 : Int32)) % (1025 : Int32)).toInt64) * (((p2 &&& (2147483647 : Int32)) % (1025 : Int32)).toInt64)) * (((p2 &&& (2147483647 : Int32)) % (1025 : Int32)).toInt64))), .second, .unset, .unset] [(.long ((5 : Int64) * ((1073741824 : Int64) - (((((p2 &&& (2147483647 : Int32)) % (1025 : Int32)).toInt64) * (((p2 &&& (2147483647 : Int32)) % (1025 : Int32)).toInt64)) * (((p2 &&& (2147483647 : Int32)) % (1025 : Int32)).toInt64))))), (.long ((p1.toInt64) * (8388608 : Int64)))]))
    refine Goes.pre (fun t kt => XS.lcmp X0.here hx rfl (hb hby at_120) rfl kt) ?_
    show Goes p e below s _ _ _ (s₁.setTop (mkF m 121 #[.val (.int p1), .val (.int p2), .val (.int p3), .val (.int (0 : Int32)), .val (.int ((p2 &&& (2147483647 : Int32)) % (1025 : Int32))), .val (.double (own_load nP)), .second, .val (.long (((p2 &&& (2147483647 : Int32)) % (1025 : Int32)).toInt64)), .second, .val (.long (((((p2 &&& (2147483647 : Int32)) % (1025 : Int32)).toInt64) * (((p2 &&& (2147483647 : Int32)) % (1025 : Int32)).toInt64)) * (((p2 &&& (2147483647 : Int32)) % (1025 : Int32)).toInt64))), .second, .unset, .unset] [(.int (lcmpW ((p1.toInt64) * (8388608 : Int64)) ((5 : Int64) * ((1073741824 : Int64) - (((((p2 &&& (2147483647 : Int32)) % (1025 : Int32)).toInt64) * (((p2 &&& (2147483647 : Int32)) % (1025 : Int32)).toInt64)) * (((p2 &&& (2147483647 : Int32)) % (1025 : Int32)).toInt64))))))]))
    by_cases hc121 : ((5 : Int64) * ((1073741824 : Int64) - (((((p2 &&& (2147483647 : Int32)) % (1025 : Int32)).toInt64) * (((p2 &&& (2147483647 : Int32)) % (1025 : Int32)).toInt64)) * (((p2 &&& (2147483647 : Int32)) % (1025 : Int32)).toInt64)))) < ((p1.toInt64) * (8388608 : Int64))
    · refine Goes.pre (fun t kt => XS.ifNo X0.here hx rfl (hb hby at_121) rfl (Jvm.Free.XT.i0_le_f ((lw_gt _ _).mpr hc121)) kt) ?_
      show Goes p e below s _ _ _ (s₁.setTop (mkF m 124 #[.val (.int p1), .val (.int p2), .val (.int p3), .val (.int (0 : Int32)), .val (.int ((p2 &&& (2147483647 : Int32)) % (1025 : Int32))), .val (.double (own_load nP)), .second, .val (.long (((p2 &&& (2147483647 : Int32)) % (1025 : Int32)).toInt64)), .second, .val (.long (((((p2 &&& (2147483647 : Int32)) % (1025 : Int32)).toInt64) * (((p2 &&& (2147483647 : Int32)) % (1025 : Int32)).toInt64)) * (((p2 &&& (2147483647 : Int32)) % (1025 : Int32)).toInt64))), .second, .unset, .unset] []))
      refine Goes.pre (fun t kt => XS.iconst X0.here hx rfl (hb hby at_124) kt) ?_
      show Goes p e below s _ _ _ (s₁.setTop (mkF m 125 #[.val (.int p1), .val (.int p2), .val (.int p3), .val (.int (0 : Int32)), .val (.int ((p2 &&& (2147483647 : Int32)) % (1025 : Int32))), .val (.double (own_load nP)), .second, .val (.long (((p2 &&& (2147483647 : Int32)) % (1025 : Int32)).toInt64)), .second, .val (.long (((((p2 &&& (2147483647 : Int32)) % (1025 : Int32)).toInt64) * (((p2 &&& (2147483647 : Int32)) % (1025 : Int32)).toInt64)) * (((p2 &&& (2147483647 : Int32)) % (1025 : Int32)).toInt64))), .second, .unset, .unset] [(.int (1 : Int32))]))
      refine Goes.pre (fun t kt => XS.goto X0.here hx rfl (pc0 := 125) (pc' := 129) rfl (hb hby at_125) (by decide) (by decide) kt) ?_
      show Goes p e below s _ _ _ (s₁.setTop (mkF m 129 #[.val (.int p1), .val (.int p2), .val (.int p3), .val (.int (0 : Int32)), .val (.int ((p2 &&& (2147483647 : Int32)) % (1025 : Int32))), .val (.double (own_load nP)), .second, .val (.long (((p2 &&& (2147483647 : Int32)) % (1025 : Int32)).toInt64)), .second, .val (.long (((((p2 &&& (2147483647 : Int32)) % (1025 : Int32)).toInt64) * (((p2 &&& (2147483647 : Int32)) % (1025 : Int32)).toInt64)) * (((p2 &&& (2147483647 : Int32)) % (1025 : Int32)).toInt64))), .second, .unset, .unset] [(.int (1 : Int32))]))
      refine Goes.pre (fun t kt => XS.istore X0.here hx rfl (hb hby at_129) rfl (l' := #[.val (.int p1), .val (.int p2), .val (.int p3), .val (.int (0 : Int32)), .val (.int ((p2 &&& (2147483647 : Int32)) % (1025 : Int32))), .val (.double (own_load nP)), .second, .val (.long (((p2 &&& (2147483647 : Int32)) % (1025 : Int32)).toInt64)), .second, .val (.long (((((p2 &&& (2147483647 : Int32)) % (1025 : Int32)).toInt64) * (((p2 &&& (2147483647 : Int32)) % (1025 : Int32)).toInt64)) * (((p2 &&& (2147483647 : Int32)) % (1025 : Int32)).toInt64))), .second, .val (.int (1 : Int32)), .unset]) rfl kt) ?_
      show Goes p e below s _ _ _ (s₁.setTop (mkF m 131 #[.val (.int p1), .val (.int p2), .val (.int p3), .val (.int (0 : Int32)), .val (.int ((p2 &&& (2147483647 : Int32)) % (1025 : Int32))), .val (.double (own_load nP)), .second, .val (.long (((p2 &&& (2147483647 : Int32)) % (1025 : Int32)).toInt64)), .second, .val (.long (((((p2 &&& (2147483647 : Int32)) % (1025 : Int32)).toInt64) * (((p2 &&& (2147483647 : Int32)) % (1025 : Int32)).toInt64)) * (((p2 &&& (2147483647 : Int32)) % (1025 : Int32)).toInt64))), .second, .val (.int (1 : Int32)), .unset] []))
      refine Goes.pre (fun t kt => XS.iloadN X0.here hx rfl (hb hby at_131) rfl kt) ?_
      show Goes p e below s _ _ _ (s₁.setTop (mkF m 132 #[.val (.int p1), .val (.int p2), .val (.int p3), .val (.int (0 : Int32)), .val (.int ((p2 &&& (2147483647 : Int32)) % (1025 : Int32))), .val (.double (own_load nP)), .second, .val (.long (((p2 &&& (2147483647 : Int32)) % (1025 : Int32)).toInt64)), .second, .val (.long (((((p2 &&& (2147483647 : Int32)) % (1025 : Int32)).toInt64) * (((p2 &&& (2147483647 : Int32)) % (1025 : Int32)).toInt64)) * (((p2 &&& (2147483647 : Int32)) % (1025 : Int32)).toInt64))), .second, .val (.int (1 : Int32)), .unset] [(.int p1)]))
      refine Goes.pre (fun t kt => XS.dload X0.here hx rfl (hb hby at_132) rfl kt) ?_
      show Goes p e below s _ _ _ (s₁.setTop (mkF m 134 #[.val (.int p1), .val (.int p2), .val (.int p3), .val (.int (0 : Int32)), .val (.int ((p2 &&& (2147483647 : Int32)) % (1025 : Int32))), .val (.double (own_load nP)), .second, .val (.long (((p2 &&& (2147483647 : Int32)) % (1025 : Int32)).toInt64)), .second, .val (.long (((((p2 &&& (2147483647 : Int32)) % (1025 : Int32)).toInt64) * (((p2 &&& (2147483647 : Int32)) % (1025 : Int32)).toInt64)) * (((p2 &&& (2147483647 : Int32)) % (1025 : Int32)).toInt64))), .second, .val (.int (1 : Int32)), .unset] [(.double (own_load nP)), (.int p1)]))
      obtain ⟨_, _, ⟨T1, L1, k1, n1⟩, -, X1, ⟨Lc1, hQ1, l1, y1, z1⟩, st1⟩ := Jvm.LawKit.callS X0 hx (y := (⟨"com/example/libshed/libshed/limit/PriorityShedding", "sheds", "(ID)Z"⟩ : MethodName)) hown (mvT hZ (hw _ (List.mem_of_getElem? (i := 5) rfl))) (mvT hZ (hw _ (List.mem_of_getElem? (i := 6) rfl))) (mvT hZ (hw _ (List.mem_of_getElem? (i := 7) rfl))) (mvT hZ (hw _ (List.mem_of_getElem? (i := 8) rfl))) (by decide) (backOf (W := 0) (rm1 l Z a0 hw [] p1 (own_load nP) h0 n0 Z0 pf_S_com_example_libshed_libshed_limit_PriorityShedding_GROUPS ((own_fine_nn nP3).2.1) ((own_fine_nn nP3).2.2.1) ((own_fine_nn nP3).2.2.2.1) ((own_fine_nn nP3).2.2.2.2.1) X00) hZ (hw _ (List.mem_of_getElem? (i := 8) rfl)) (hw _ (List.mem_of_getElem? (i := 7) rfl)) (by decide) (by decide)) (g := (mkF m 134 #[.val (.int p1), .val (.int p2), .val (.int p3), .val (.int (0 : Int32)), .val (.int ((p2 &&& (2147483647 : Int32)) % (1025 : Int32))), .val (.double (own_load nP)), .second, .val (.long (((p2 &&& (2147483647 : Int32)) % (1025 : Int32)).toInt64)), .second, .val (.long (((((p2 &&& (2147483647 : Int32)) % (1025 : Int32)).toInt64) * (((p2 &&& (2147483647 : Int32)) % (1025 : Int32)).toInt64)) * (((p2 &&& (2147483647 : Int32)) % (1025 : Int32)).toInt64))), .second, .val (.int (1 : Int32)), .unset] [(.double (own_load nP)), (.int p1)])) rfl (by rw [hml]; rfl) (argsL := [(.int p1), (.double (own_load nP))]) (rest := []) (lenOf pd_1 rfl) rfl (by show 2 * 0 + _ ≤ _; exact Nat.le_of_eq rfl) (hb hby at_134) (fun _ _ => ⟨rfl, e0, (by decide : 0 + 0 ≤ _), (by decide : 0 + 0 ≤ _)⟩)
      dsimp only [Pt.U, Pt.locs, Pt.cells, Pt.slots] at X1 l1 y1 z1 st1 hQ1
      subst l1 y1 z1
      obtain ⟨rfl, Nq1, eq1⟩ := hQ1
      refine Goes.pre st1 ?_
      have N1 := Fr.app N0 Nq1
      show Goes p e below s _ _ _ (T1.setTop (mkF m 137 #[.val (.int p1), .val (.int p2), .val (.int p3), .val (.int (0 : Int32)), .val (.int ((p2 &&& (2147483647 : Int32)) % (1025 : Int32))), .val (.double (own_load nP)), .second, .val (.long (((p2 &&& (2147483647 : Int32)) % (1025 : Int32)).toInt64)), .second, .val (.long (((((p2 &&& (2147483647 : Int32)) % (1025 : Int32)).toInt64) * (((p2 &&& (2147483647 : Int32)) % (1025 : Int32)).toInt64)) * (((p2 &&& (2147483647 : Int32)) % (1025 : Int32)).toInt64))), .second, .val (.int (1 : Int32)), .unset] [(.int (own_shed p1 (own_load nP)))]))
      refine Goes.pre (fun t kt => XS.istore X1.here hx rfl (hb hby at_137) rfl (l' := #[.val (.int p1), .val (.int p2), .val (.int p3), .val (.int (0 : Int32)), .val (.int ((p2 &&& (2147483647 : Int32)) % (1025 : Int32))), .val (.double (own_load nP)), .second, .val (.long (((p2 &&& (2147483647 : Int32)) % (1025 : Int32)).toInt64)), .second, .val (.long (((((p2 &&& (2147483647 : Int32)) % (1025 : Int32)).toInt64) * (((p2 &&& (2147483647 : Int32)) % (1025 : Int32)).toInt64)) * (((p2 &&& (2147483647 : Int32)) % (1025 : Int32)).toInt64))), .second, .val (.int (1 : Int32)), .val (.int (own_shed p1 (own_load nP)))]) rfl kt) ?_
      show Goes p e below s _ _ _ (T1.setTop (mkF m 139 #[.val (.int p1), .val (.int p2), .val (.int p3), .val (.int (0 : Int32)), .val (.int ((p2 &&& (2147483647 : Int32)) % (1025 : Int32))), .val (.double (own_load nP)), .second, .val (.long (((p2 &&& (2147483647 : Int32)) % (1025 : Int32)).toInt64)), .second, .val (.long (((((p2 &&& (2147483647 : Int32)) % (1025 : Int32)).toInt64) * (((p2 &&& (2147483647 : Int32)) % (1025 : Int32)).toInt64)) * (((p2 &&& (2147483647 : Int32)) % (1025 : Int32)).toInt64))), .second, .val (.int (1 : Int32)), .val (.int (own_shed p1 (own_load nP)))] []))
      refine Goes.pre (fun t kt => XS.iload X1.here hx rfl (hb hby at_139) rfl kt) ?_
      show Goes p e below s _ _ _ (T1.setTop (mkF m 141 #[.val (.int p1), .val (.int p2), .val (.int p3), .val (.int (0 : Int32)), .val (.int ((p2 &&& (2147483647 : Int32)) % (1025 : Int32))), .val (.double (own_load nP)), .second, .val (.long (((p2 &&& (2147483647 : Int32)) % (1025 : Int32)).toInt64)), .second, .val (.long (((((p2 &&& (2147483647 : Int32)) % (1025 : Int32)).toInt64) * (((p2 &&& (2147483647 : Int32)) % (1025 : Int32)).toInt64)) * (((p2 &&& (2147483647 : Int32)) % (1025 : Int32)).toInt64))), .second, .val (.int (1 : Int32)), .val (.int (own_shed p1 (own_load nP)))] [(.int (own_shed p1 (own_load nP)))]))
      refine Goes.pre (fun t kt => XS.iload X1.here hx rfl (hb hby at_141) rfl kt) ?_
      show Goes p e below s _ _ _ (T1.setTop (mkF m 143 #[.val (.int p1), .val (.int p2), .val (.int p3), .val (.int (0 : Int32)), .val (.int ((p2 &&& (2147483647 : Int32)) % (1025 : Int32))), .val (.double (own_load nP)), .second, .val (.long (((p2 &&& (2147483647 : Int32)) % (1025 : Int32)).toInt64)), .second, .val (.long (((((p2 &&& (2147483647 : Int32)) % (1025 : Int32)).toInt64) * (((p2 &&& (2147483647 : Int32)) % (1025 : Int32)).toInt64)) * (((p2 &&& (2147483647 : Int32)) % (1025 : Int32)).toInt64))), .second, .val (.int (1 : Int32)), .val (.int (own_shed p1 (own_load nP)))] [(.int (1 : Int32)), (.int (own_shed p1 (own_load nP)))]))
      refine Goes.pre (fun t kt => XS.icmpNo X1.here hx rfl (hb hby at_143) rfl (Jvm.Free.XT.ii_ne_f ((by rw [nP5, if_pos ((own_long p1 nP1 nP4).mp hc121)]))) kt) ?_
      show Goes p e below s _ _ _ (T1.setTop (mkF m 146 #[.val (.int p1), .val (.int p2), .val (.int p3), .val (.int (0 : Int32)), .val (.int ((p2 &&& (2147483647 : Int32)) % (1025 : Int32))), .val (.double (own_load nP)), .second, .val (.long (((p2 &&& (2147483647 : Int32)) % (1025 : Int32)).toInt64)), .second, .val (.long (((((p2 &&& (2147483647 : Int32)) % (1025 : Int32)).toInt64) * (((p2 &&& (2147483647 : Int32)) % (1025 : Int32)).toInt64)) * (((p2 &&& (2147483647 : Int32)) % (1025 : Int32)).toInt64))), .second, .val (.int (1 : Int32)), .val (.int (own_shed p1 (own_load nP)))] []))
      refine Goes.pre (fun t kt => XS.iconst X1.here hx rfl (hb hby at_146) kt) ?_
      show Goes p e below s _ _ _ (T1.setTop (mkF m 147 #[.val (.int p1), .val (.int p2), .val (.int p3), .val (.int (0 : Int32)), .val (.int ((p2 &&& (2147483647 : Int32)) % (1025 : Int32))), .val (.double (own_load nP)), .second, .val (.long (((p2 &&& (2147483647 : Int32)) % (1025 : Int32)).toInt64)), .second, .val (.long (((((p2 &&& (2147483647 : Int32)) % (1025 : Int32)).toInt64) * (((p2 &&& (2147483647 : Int32)) % (1025 : Int32)).toInt64)) * (((p2 &&& (2147483647 : Int32)) % (1025 : Int32)).toInt64))), .second, .val (.int (1 : Int32)), .val (.int (own_shed p1 (own_load nP)))] [(.int (1 : Int32))]))
      refine Goes.pre (fun t kt => XS.goto X1.here hx rfl (pc0 := 147) (pc' := 151) rfl (hb hby at_147) (by decide) (by decide) kt) ?_
      show Goes p e below s _ _ _ (T1.setTop (mkF m 151 #[.val (.int p1), .val (.int p2), .val (.int p3), .val (.int (0 : Int32)), .val (.int ((p2 &&& (2147483647 : Int32)) % (1025 : Int32))), .val (.double (own_load nP)), .second, .val (.long (((p2 &&& (2147483647 : Int32)) % (1025 : Int32)).toInt64)), .second, .val (.long (((((p2 &&& (2147483647 : Int32)) % (1025 : Int32)).toInt64) * (((p2 &&& (2147483647 : Int32)) % (1025 : Int32)).toInt64)) * (((p2 &&& (2147483647 : Int32)) % (1025 : Int32)).toInt64))), .second, .val (.int (1 : Int32)), .val (.int (own_shed p1 (own_load nP)))] [(.int (1 : Int32))]))
      refine Goes.ret X1 (some (.int (1 : Int32))) (fun h => by rw [Bd.returns] at h; cases h) (BodyLoose.notSynchronized Bd) (by decide) (by decide) (fun fs hr => retN X1 hx (t := .boolean) Bd.returns (by simp) (hb hby at_151) hr) ?_
      show Q_rm0 Z p1 p2 p3 h0 n0 _ T1.heap _
      rw [eq1]
      exact ⟨rfl, N1⟩
    · refine Goes.pre (fun t kt => XS.ifYes X0.here hx rfl (pc0 := 121) (pc' := 128) rfl (hb hby at_121) rfl (Jvm.Free.XT.i0_le_t ((not_congr (lw_gt _ _)).mpr hc121)) (by decide) (by decide) kt) ?_
      show Goes p e below s _ _ _ (s₁.setTop (mkF m 128 #[.val (.int p1), .val (.int p2), .val (.int p3), .val (.int (0 : Int32)), .val (.int ((p2 &&& (2147483647 : Int32)) % (1025 : Int32))), .val (.double (own_load nP)), .second, .val (.long (((p2 &&& (2147483647 : Int32)) % (1025 : Int32)).toInt64)), .second, .val (.long (((((p2 &&& (2147483647 : Int32)) % (1025 : Int32)).toInt64) * (((p2 &&& (2147483647 : Int32)) % (1025 : Int32)).toInt64)) * (((p2 &&& (2147483647 : Int32)) % (1025 : Int32)).toInt64))), .second, .unset, .unset] []))
      refine Goes.pre (fun t kt => XS.iconst X0.here hx rfl (hb hby at_128) kt) ?_
      show Goes p e below s _ _ _ (s₁.setTop (mkF m 129 #[.val (.int p1), .val (.int p2), .val (.int p3), .val (.int (0 : Int32)), .val (.int ((p2 &&& (2147483647 : Int32)) % (1025 : Int32))), .val (.double (own_load nP)), .second, .val (.long (((p2 &&& (2147483647 : Int32)) % (1025 : Int32)).toInt64)), .second, .val (.long (((((p2 &&& (2147483647 : Int32)) % (1025 : Int32)).toInt64) * (((p2 &&& (2147483647 : Int32)) % (1025 : Int32)).toInt64)) * (((p2 &&& (2147483647 : Int32)) % (1025 : Int32)).toInt64))), .second, .unset, .unset] [(.int (0 : Int32))]))
      refine Goes.pre (fun t kt => XS.istore X0.here hx rfl (hb hby at_129) rfl (l' := #[.val (.int p1), .val (.int p2), .val (.int p3), .val (.int (0 : Int32)), .val (.int ((p2 &&& (2147483647 : Int32)) % (1025 : Int32))), .val (.double (own_load nP)), .second, .val (.long (((p2 &&& (2147483647 : Int32)) % (1025 : Int32)).toInt64)), .second, .val (.long (((((p2 &&& (2147483647 : Int32)) % (1025 : Int32)).toInt64) * (((p2 &&& (2147483647 : Int32)) % (1025 : Int32)).toInt64)) * (((p2 &&& (2147483647 : Int32)) % (1025 : Int32)).toInt64))), .second, .val (.int (0 : Int32)), .unset]) rfl kt) ?_
      show Goes p e below s _ _ _ (s₁.setTop (mkF m 131 #[.val (.int p1), .val (.int p2), .val (.int p3), .val (.int (0 : Int32)), .val (.int ((p2 &&& (2147483647 : Int32)) % (1025 : Int32))), .val (.double (own_load nP)), .second, .val (.long (((p2 &&& (2147483647 : Int32)) % (1025 : Int32)).toInt64)), .second, .val (.long (((((p2 &&& (2147483647 : Int32)) % (1025 : Int32)).toInt64) * (((p2 &&& (2147483647 : Int32)) % (1025 : Int32)).toInt64)) * (((p2 &&& (2147483647 : Int32)) % (1025 : Int32)).toInt64))), .second, .val (.int (0 : Int32)), .unset] []))
      refine Goes.pre (fun t kt => XS.iloadN X0.here hx rfl (hb hby at_131) rfl kt) ?_
      show Goes p e below s _ _ _ (s₁.setTop (mkF m 132 #[.val (.int p1), .val (.int p2), .val (.int p3), .val (.int (0 : Int32)), .val (.int ((p2 &&& (2147483647 : Int32)) % (1025 : Int32))), .val (.double (own_load nP)), .second, .val (.long (((p2 &&& (2147483647 : Int32)) % (1025 : Int32)).toInt64)), .second, .val (.long (((((p2 &&& (2147483647 : Int32)) % (1025 : Int32)).toInt64) * (((p2 &&& (2147483647 : Int32)) % (1025 : Int32)).toInt64)) * (((p2 &&& (2147483647 : Int32)) % (1025 : Int32)).toInt64))), .second, .val (.int (0 : Int32)), .unset] [(.int p1)]))
      refine Goes.pre (fun t kt => XS.dload X0.here hx rfl (hb hby at_132) rfl kt) ?_
      show Goes p e below s _ _ _ (s₁.setTop (mkF m 134 #[.val (.int p1), .val (.int p2), .val (.int p3), .val (.int (0 : Int32)), .val (.int ((p2 &&& (2147483647 : Int32)) % (1025 : Int32))), .val (.double (own_load nP)), .second, .val (.long (((p2 &&& (2147483647 : Int32)) % (1025 : Int32)).toInt64)), .second, .val (.long (((((p2 &&& (2147483647 : Int32)) % (1025 : Int32)).toInt64) * (((p2 &&& (2147483647 : Int32)) % (1025 : Int32)).toInt64)) * (((p2 &&& (2147483647 : Int32)) % (1025 : Int32)).toInt64))), .second, .val (.int (0 : Int32)), .unset] [(.double (own_load nP)), (.int p1)]))
      obtain ⟨_, _, ⟨T2, L2, k2, n2⟩, -, X2, ⟨Lc2, hQ2, l2, y2, z2⟩, st2⟩ := Jvm.LawKit.callS X0 hx (y := (⟨"com/example/libshed/libshed/limit/PriorityShedding", "sheds", "(ID)Z"⟩ : MethodName)) hown (mvT hZ (hw _ (List.mem_of_getElem? (i := 5) rfl))) (mvT hZ (hw _ (List.mem_of_getElem? (i := 6) rfl))) (mvT hZ (hw _ (List.mem_of_getElem? (i := 7) rfl))) (mvT hZ (hw _ (List.mem_of_getElem? (i := 8) rfl))) (by decide) (backOf (W := 0) (rm1 l Z a0 hw [] p1 (own_load nP) h0 n0 Z0 pf_S_com_example_libshed_libshed_limit_PriorityShedding_GROUPS ((own_fine_nn nP3).2.1) ((own_fine_nn nP3).2.2.1) ((own_fine_nn nP3).2.2.2.1) ((own_fine_nn nP3).2.2.2.2.1) X00) hZ (hw _ (List.mem_of_getElem? (i := 8) rfl)) (hw _ (List.mem_of_getElem? (i := 7) rfl)) (by decide) (by decide)) (g := (mkF m 134 #[.val (.int p1), .val (.int p2), .val (.int p3), .val (.int (0 : Int32)), .val (.int ((p2 &&& (2147483647 : Int32)) % (1025 : Int32))), .val (.double (own_load nP)), .second, .val (.long (((p2 &&& (2147483647 : Int32)) % (1025 : Int32)).toInt64)), .second, .val (.long (((((p2 &&& (2147483647 : Int32)) % (1025 : Int32)).toInt64) * (((p2 &&& (2147483647 : Int32)) % (1025 : Int32)).toInt64)) * (((p2 &&& (2147483647 : Int32)) % (1025 : Int32)).toInt64))), .second, .val (.int (0 : Int32)), .unset] [(.double (own_load nP)), (.int p1)])) rfl (by rw [hml]; rfl) (argsL := [(.int p1), (.double (own_load nP))]) (rest := []) (lenOf pd_1 rfl) rfl (by show 2 * 0 + _ ≤ _; exact Nat.le_of_eq rfl) (hb hby at_134) (fun _ _ => ⟨rfl, e0, (by decide : 0 + 0 ≤ _), (by decide : 0 + 0 ≤ _)⟩)
      dsimp only [Pt.U, Pt.locs, Pt.cells, Pt.slots] at X2 l2 y2 z2 st2 hQ2
      subst l2 y2 z2
      obtain ⟨rfl, Nq2, eq2⟩ := hQ2
      refine Goes.pre st2 ?_
      have N2 := Fr.app N0 Nq2
      show Goes p e below s _ _ _ (T2.setTop (mkF m 137 #[.val (.int p1), .val (.int p2), .val (.int p3), .val (.int (0 : Int32)), .val (.int ((p2 &&& (2147483647 : Int32)) % (1025 : Int32))), .val (.double (own_load nP)), .second, .val (.long (((p2 &&& (2147483647 : Int32)) % (1025 : Int32)).toInt64)), .second, .val (.long (((((p2 &&& (2147483647 : Int32)) % (1025 : Int32)).toInt64) * (((p2 &&& (2147483647 : Int32)) % (1025 : Int32)).toInt64)) * (((p2 &&& (2147483647 : Int32)) % (1025 : Int32)).toInt64))), .second, .val (.int (0 : Int32)), .unset] [(.int (own_shed p1 (own_load nP)))]))
      refine Goes.pre (fun t kt => XS.istore X2.here hx rfl (hb hby at_137) rfl (l' := #[.val (.int p1), .val (.int p2), .val (.int p3), .val (.int (0 : Int32)), .val (.int ((p2 &&& (2147483647 : Int32)) % (1025 : Int32))), .val (.double (own_load nP)), .second, .val (.long (((p2 &&& (2147483647 : Int32)) % (1025 : Int32)).toInt64)), .second, .val (.long (((((p2 &&& (2147483647 : Int32)) % (1025 : Int32)).toInt64) * (((p2 &&& (2147483647 : Int32)) % (1025 : Int32)).toInt64)) * (((p2 &&& (2147483647 : Int32)) % (1025 : Int32)).toInt64))), .second, .val (.int (0 : Int32)), .val (.int (own_shed p1 (own_load nP)))]) rfl kt) ?_
      show Goes p e below s _ _ _ (T2.setTop (mkF m 139 #[.val (.int p1), .val (.int p2), .val (.int p3), .val (.int (0 : Int32)), .val (.int ((p2 &&& (2147483647 : Int32)) % (1025 : Int32))), .val (.double (own_load nP)), .second, .val (.long (((p2 &&& (2147483647 : Int32)) % (1025 : Int32)).toInt64)), .second, .val (.long (((((p2 &&& (2147483647 : Int32)) % (1025 : Int32)).toInt64) * (((p2 &&& (2147483647 : Int32)) % (1025 : Int32)).toInt64)) * (((p2 &&& (2147483647 : Int32)) % (1025 : Int32)).toInt64))), .second, .val (.int (0 : Int32)), .val (.int (own_shed p1 (own_load nP)))] []))
      refine Goes.pre (fun t kt => XS.iload X2.here hx rfl (hb hby at_139) rfl kt) ?_
      show Goes p e below s _ _ _ (T2.setTop (mkF m 141 #[.val (.int p1), .val (.int p2), .val (.int p3), .val (.int (0 : Int32)), .val (.int ((p2 &&& (2147483647 : Int32)) % (1025 : Int32))), .val (.double (own_load nP)), .second, .val (.long (((p2 &&& (2147483647 : Int32)) % (1025 : Int32)).toInt64)), .second, .val (.long (((((p2 &&& (2147483647 : Int32)) % (1025 : Int32)).toInt64) * (((p2 &&& (2147483647 : Int32)) % (1025 : Int32)).toInt64)) * (((p2 &&& (2147483647 : Int32)) % (1025 : Int32)).toInt64))), .second, .val (.int (0 : Int32)), .val (.int (own_shed p1 (own_load nP)))] [(.int (own_shed p1 (own_load nP)))]))
      refine Goes.pre (fun t kt => XS.iload X2.here hx rfl (hb hby at_141) rfl kt) ?_
      show Goes p e below s _ _ _ (T2.setTop (mkF m 143 #[.val (.int p1), .val (.int p2), .val (.int p3), .val (.int (0 : Int32)), .val (.int ((p2 &&& (2147483647 : Int32)) % (1025 : Int32))), .val (.double (own_load nP)), .second, .val (.long (((p2 &&& (2147483647 : Int32)) % (1025 : Int32)).toInt64)), .second, .val (.long (((((p2 &&& (2147483647 : Int32)) % (1025 : Int32)).toInt64) * (((p2 &&& (2147483647 : Int32)) % (1025 : Int32)).toInt64)) * (((p2 &&& (2147483647 : Int32)) % (1025 : Int32)).toInt64))), .second, .val (.int (0 : Int32)), .val (.int (own_shed p1 (own_load nP)))] [(.int (0 : Int32)), (.int (own_shed p1 (own_load nP)))]))
      refine Goes.pre (fun t kt => XS.icmpNo X2.here hx rfl (hb hby at_143) rfl (Jvm.Free.XT.ii_ne_f ((by rw [nP5, if_neg (fun q => hc121 ((own_long p1 nP1 nP4).mpr q))]))) kt) ?_
      show Goes p e below s _ _ _ (T2.setTop (mkF m 146 #[.val (.int p1), .val (.int p2), .val (.int p3), .val (.int (0 : Int32)), .val (.int ((p2 &&& (2147483647 : Int32)) % (1025 : Int32))), .val (.double (own_load nP)), .second, .val (.long (((p2 &&& (2147483647 : Int32)) % (1025 : Int32)).toInt64)), .second, .val (.long (((((p2 &&& (2147483647 : Int32)) % (1025 : Int32)).toInt64) * (((p2 &&& (2147483647 : Int32)) % (1025 : Int32)).toInt64)) * (((p2 &&& (2147483647 : Int32)) % (1025 : Int32)).toInt64))), .second, .val (.int (0 : Int32)), .val (.int (own_shed p1 (own_load nP)))] []))
      refine Goes.pre (fun t kt => XS.iconst X2.here hx rfl (hb hby at_146) kt) ?_
      show Goes p e below s _ _ _ (T2.setTop (mkF m 147 #[.val (.int p1), .val (.int p2), .val (.int p3), .val (.int (0 : Int32)), .val (.int ((p2 &&& (2147483647 : Int32)) % (1025 : Int32))), .val (.double (own_load nP)), .second, .val (.long (((p2 &&& (2147483647 : Int32)) % (1025 : Int32)).toInt64)), .second, .val (.long (((((p2 &&& (2147483647 : Int32)) % (1025 : Int32)).toInt64) * (((p2 &&& (2147483647 : Int32)) % (1025 : Int32)).toInt64)) * (((p2 &&& (2147483647 : Int32)) % (1025 : Int32)).toInt64))), .second, .val (.int (0 : Int32)), .val (.int (own_shed p1 (own_load nP)))] [(.int (1 : Int32))]))
      refine Goes.pre (fun t kt => XS.goto X2.here hx rfl (pc0 := 147) (pc' := 151) rfl (hb hby at_147) (by decide) (by decide) kt) ?_
      show Goes p e below s _ _ _ (T2.setTop (mkF m 151 #[.val (.int p1), .val (.int p2), .val (.int p3), .val (.int (0 : Int32)), .val (.int ((p2 &&& (2147483647 : Int32)) % (1025 : Int32))), .val (.double (own_load nP)), .second, .val (.long (((p2 &&& (2147483647 : Int32)) % (1025 : Int32)).toInt64)), .second, .val (.long (((((p2 &&& (2147483647 : Int32)) % (1025 : Int32)).toInt64) * (((p2 &&& (2147483647 : Int32)) % (1025 : Int32)).toInt64)) * (((p2 &&& (2147483647 : Int32)) % (1025 : Int32)).toInt64))), .second, .val (.int (0 : Int32)), .val (.int (own_shed p1 (own_load nP)))] [(.int (1 : Int32))]))
      refine Goes.ret X2 (some (.int (1 : Int32))) (fun h => by rw [Bd.returns] at h; cases h) (BodyLoose.notSynchronized Bd) (by decide) (by decide) (fun fs hr => retN X2 hx (t := .boolean) Bd.returns (by simp) (hb hby at_151) hr) ?_
      show Q_rm0 Z p1 p2 p3 h0 n0 _ T2.heap _
      rw [eq2]
      exact ⟨rfl, N2⟩
  · refine Goes.pre (fun t kt => XS.ifNo X0.here hx rfl (hb hby at_3) rfl (Jvm.Free.XT.i0_eq_f (hc3)) kt) ?_
    show Goes p e below s _ _ _ (s₁.setTop (mkF m 6 #[.val (.int p1), .val (.int p2), .val (.int p3), .unset, .unset, .unset, .unset, .unset, .unset, .unset, .unset, .unset, .unset] []))
    refine Goes.pre (fun t kt => XS.iconst X0.here hx rfl (hb hby at_6) kt) ?_
    show Goes p e below s _ _ _ (s₁.setTop (mkF m 7 #[.val (.int p1), .val (.int p2), .val (.int p3), .unset, .unset, .unset, .unset, .unset, .unset, .unset, .unset, .unset, .unset] [(.int (1 : Int32))]))
    refine Goes.pre (fun t kt => XS.goto X0.here hx rfl (pc0 := 7) (pc' := 11) rfl (hb hby at_7) (by decide) (by decide) kt) ?_
    show Goes p e below s _ _ _ (s₁.setTop (mkF m 11 #[.val (.int p1), .val (.int p2), .val (.int p3), .unset, .unset, .unset, .unset, .unset, .unset, .unset, .unset, .unset, .unset] [(.int (1 : Int32))]))
    refine Goes.pre (fun t kt => XS.istoreN X0.here hx rfl (hb hby at_11) rfl (l' := #[.val (.int p1), .val (.int p2), .val (.int p3), .val (.int (1 : Int32)), .unset, .unset, .unset, .unset, .unset, .unset, .unset, .unset, .unset]) rfl kt) ?_
    show Goes p e below s _ _ _ (s₁.setTop (mkF m 12 #[.val (.int p1), .val (.int p2), .val (.int p3), .val (.int (1 : Int32)), .unset, .unset, .unset, .unset, .unset, .unset, .unset, .unset, .unset] []))
    refine Goes.pre (fun t kt => XS.iloadN X0.here hx rfl (hb hby at_12) rfl kt) ?_
    show Goes p e below s _ _ _ (s₁.setTop (mkF m 13 #[.val (.int p1), .val (.int p2), .val (.int p3), .val (.int (1 : Int32)), .unset, .unset, .unset, .unset, .unset, .unset, .unset, .unset, .unset] [(.int (1 : Int32))]))
    refine Goes.pre (fun t kt => XS.ifNo X0.here hx rfl (hb hby at_13) rfl (Jvm.Free.XT.i0_eq_f ((by decide))) kt) ?_
    show Goes p e below s _ _ _ (s₁.setTop (mkF m 16 #[.val (.int p1), .val (.int p2), .val (.int p3), .val (.int (1 : Int32)), .unset, .unset, .unset, .unset, .unset, .unset, .unset, .unset, .unset] []))
    refine Goes.pre (fun t kt => XS.iconst X0.here hx rfl (hb hby at_16) kt) ?_
    show Goes p e below s _ _ _ (s₁.setTop (mkF m 17 #[.val (.int p1), .val (.int p2), .val (.int p3), .val (.int (1 : Int32)), .unset, .unset, .unset, .unset, .unset, .unset, .unset, .unset, .unset] [(.int (1 : Int32))]))
    refine Goes.pre (fun t kt => XS.iloadN X0.here hx rfl (hb hby at_17) rfl kt) ?_
    show Goes p e below s _ _ _ (s₁.setTop (mkF m 18 #[.val (.int p1), .val (.int p2), .val (.int p3), .val (.int (1 : Int32)), .unset, .unset, .unset, .unset, .unset, .unset, .unset, .unset, .unset] [(.int p2), (.int (1 : Int32))]))
    refine Goes.pre (X0.ldcInt hx hown (mvT hZ (hw _ (List.mem_of_getElem? (i := 0) rfl))) (g := (mkF m 18 #[.val (.int p1), .val (.int p2), .val (.int p3), .val (.int (1 : Int32)), .unset, .unset, .unset, .unset, .unset, .unset, .unset, .unset, .unset] [(.int p2), (.int (1 : Int32))])) rfl (hb hby at_18)) ?_
    show Goes p e below s _ _ _ (s₁.setTop (mkF m 20 #[.val (.int p1), .val (.int p2), .val (.int p3), .val (.int (1 : Int32)), .unset, .unset, .unset, .unset, .unset, .unset, .unset, .unset, .unset] [(.int (2147483647 : Int32)), (.int p2), (.int (1 : Int32))]))
    refine Goes.pre (fun t kt => XS.iand X0.here hx rfl (hb hby at_20) rfl kt) ?_
    show Goes p e below s _ _ _ (s₁.setTop (mkF m 21 #[.val (.int p1), .val (.int p2), .val (.int p3), .val (.int (1 : Int32)), .unset, .unset, .unset, .unset, .unset, .unset, .unset, .unset, .unset] [(.int (p2 &&& (2147483647 : Int32))), (.int (1 : Int32))]))
    refine Goes.pre (fun t kt => XS.sipush X0.here hx rfl (hb hby at_21) kt) ?_
    show Goes p e below s _ _ _ (s₁.setTop (mkF m 24 #[.val (.int p1), .val (.int p2), .val (.int p3), .val (.int (1 : Int32)), .unset, .unset, .unset, .unset, .unset, .unset, .unset, .unset, .unset] [(.int (1024 : Int32)), (.int (p2 &&& (2147483647 : Int32))), (.int (1 : Int32))]))
    refine Goes.pre (fun t kt => Jvm.RoadKit.iremM X0 hx rfl (hb hby at_24) rfl (by decide) kt) ?_
    show Goes p e below s _ _ _ (s₁.setTop (mkF m 25 #[.val (.int p1), .val (.int p2), .val (.int p3), .val (.int (1 : Int32)), .unset, .unset, .unset, .unset, .unset, .unset, .unset, .unset, .unset] [(.int ((p2 &&& (2147483647 : Int32)) % (1024 : Int32))), (.int (1 : Int32))]))
    refine Goes.pre (fun t kt => XS.iadd X0.here hx rfl (hb hby at_25) rfl kt) ?_
    show Goes p e below s _ _ _ (s₁.setTop (mkF m 26 #[.val (.int p1), .val (.int p2), .val (.int p3), .val (.int (1 : Int32)), .unset, .unset, .unset, .unset, .unset, .unset, .unset, .unset, .unset] [(.int ((1 : Int32) + ((p2 &&& (2147483647 : Int32)) % (1024 : Int32))))]))
    refine Goes.pre (fun t kt => XS.istore X0.here hx rfl (hb hby at_26) rfl (l' := #[.val (.int p1), .val (.int p2), .val (.int p3), .val (.int (1 : Int32)), .val (.int ((1 : Int32) + ((p2 &&& (2147483647 : Int32)) % (1024 : Int32)))), .unset, .unset, .unset, .unset, .unset, .unset, .unset, .unset]) rfl kt) ?_
    show Goes p e below s _ _ _ (s₁.setTop (mkF m 28 #[.val (.int p1), .val (.int p2), .val (.int p3), .val (.int (1 : Int32)), .val (.int ((1 : Int32) + ((p2 &&& (2147483647 : Int32)) % (1024 : Int32)))), .unset, .unset, .unset, .unset, .unset, .unset, .unset, .unset] []))
    refine Goes.pre (fun t kt => XS.iconst X0.here hx rfl (hb hby at_28) kt) ?_
    show Goes p e below s _ _ _ (s₁.setTop (mkF m 29 #[.val (.int p1), .val (.int p2), .val (.int p3), .val (.int (1 : Int32)), .val (.int ((1 : Int32) + ((p2 &&& (2147483647 : Int32)) % (1024 : Int32)))), .unset, .unset, .unset, .unset, .unset, .unset, .unset, .unset] [(.int (1 : Int32))]))
    refine Goes.pre (fun t kt => XS.iloadN X0.here hx rfl (hb hby at_29) rfl kt) ?_
    show Goes p e below s _ _ _ (s₁.setTop (mkF m 30 #[.val (.int p1), .val (.int p2), .val (.int p3), .val (.int (1 : Int32)), .val (.int ((1 : Int32) + ((p2 &&& (2147483647 : Int32)) % (1024 : Int32)))), .unset, .unset, .unset, .unset, .unset, .unset, .unset, .unset] [(.int p1), (.int (1 : Int32))]))
    refine Goes.pre (X0.ldcInt hx hown (mvT hZ (hw _ (List.mem_of_getElem? (i := 0) rfl))) (g := (mkF m 30 #[.val (.int p1), .val (.int p2), .val (.int p3), .val (.int (1 : Int32)), .val (.int ((1 : Int32) + ((p2 &&& (2147483647 : Int32)) % (1024 : Int32)))), .unset, .unset, .unset, .unset, .unset, .unset, .unset, .unset] [(.int p1), (.int (1 : Int32))])) rfl (hb hby at_30)) ?_
    show Goes p e below s _ _ _ (s₁.setTop (mkF m 32 #[.val (.int p1), .val (.int p2), .val (.int p3), .val (.int (1 : Int32)), .val (.int ((1 : Int32) + ((p2 &&& (2147483647 : Int32)) % (1024 : Int32)))), .unset, .unset, .unset, .unset, .unset, .unset, .unset, .unset] [(.int (2147483647 : Int32)), (.int p1), (.int (1 : Int32))]))
    refine Goes.pre (fun t kt => XS.iand X0.here hx rfl (hb hby at_32) rfl kt) ?_
    show Goes p e below s _ _ _ (s₁.setTop (mkF m 33 #[.val (.int p1), .val (.int p2), .val (.int p3), .val (.int (1 : Int32)), .val (.int ((1 : Int32) + ((p2 &&& (2147483647 : Int32)) % (1024 : Int32)))), .unset, .unset, .unset, .unset, .unset, .unset, .unset, .unset] [(.int (p1 &&& (2147483647 : Int32))), (.int (1 : Int32))]))
    refine Goes.pre (fun t kt => XS.sipush X0.here hx rfl (hb hby at_33) kt) ?_
    show Goes p e below s _ _ _ (s₁.setTop (mkF m 36 #[.val (.int p1), .val (.int p2), .val (.int p3), .val (.int (1 : Int32)), .val (.int ((1 : Int32) + ((p2 &&& (2147483647 : Int32)) % (1024 : Int32)))), .unset, .unset, .unset, .unset, .unset, .unset, .unset, .unset] [(.int (640 : Int32)), (.int (p1 &&& (2147483647 : Int32))), (.int (1 : Int32))]))
    refine Goes.pre (fun t kt => Jvm.RoadKit.iremM X0 hx rfl (hb hby at_36) rfl (by decide) kt) ?_
    show Goes p e below s _ _ _ (s₁.setTop (mkF m 37 #[.val (.int p1), .val (.int p2), .val (.int p3), .val (.int (1 : Int32)), .val (.int ((1 : Int32) + ((p2 &&& (2147483647 : Int32)) % (1024 : Int32)))), .unset, .unset, .unset, .unset, .unset, .unset, .unset, .unset] [(.int ((p1 &&& (2147483647 : Int32)) % (640 : Int32))), (.int (1 : Int32))]))
    refine Goes.pre (fun t kt => XS.iadd X0.here hx rfl (hb hby at_37) rfl kt) ?_
    show Goes p e below s _ _ _ (s₁.setTop (mkF m 38 #[.val (.int p1), .val (.int p2), .val (.int p3), .val (.int (1 : Int32)), .val (.int ((1 : Int32) + ((p2 &&& (2147483647 : Int32)) % (1024 : Int32)))), .unset, .unset, .unset, .unset, .unset, .unset, .unset, .unset] [(.int ((1 : Int32) + ((p1 &&& (2147483647 : Int32)) % (640 : Int32))))]))
    refine Goes.pre (fun t kt => XS.istore X0.here hx rfl (hb hby at_38) rfl (l' := #[.val (.int p1), .val (.int p2), .val (.int p3), .val (.int (1 : Int32)), .val (.int ((1 : Int32) + ((p2 &&& (2147483647 : Int32)) % (1024 : Int32)))), .val (.int ((1 : Int32) + ((p1 &&& (2147483647 : Int32)) % (640 : Int32)))), .unset, .unset, .unset, .unset, .unset, .unset, .unset]) rfl kt) ?_
    show Goes p e below s _ _ _ (s₁.setTop (mkF m 40 #[.val (.int p1), .val (.int p2), .val (.int p3), .val (.int (1 : Int32)), .val (.int ((1 : Int32) + ((p2 &&& (2147483647 : Int32)) % (1024 : Int32)))), .val (.int ((1 : Int32) + ((p1 &&& (2147483647 : Int32)) % (640 : Int32)))), .unset, .unset, .unset, .unset, .unset, .unset, .unset] []))
    refine Goes.pre (fun t kt => XS.iload X0.here hx rfl (hb hby at_40) rfl kt) ?_
    show Goes p e below s _ _ _ (s₁.setTop (mkF m 42 #[.val (.int p1), .val (.int p2), .val (.int p3), .val (.int (1 : Int32)), .val (.int ((1 : Int32) + ((p2 &&& (2147483647 : Int32)) % (1024 : Int32)))), .val (.int ((1 : Int32) + ((p1 &&& (2147483647 : Int32)) % (640 : Int32)))), .unset, .unset, .unset, .unset, .unset, .unset, .unset] [(.int ((1 : Int32) + ((p2 &&& (2147483647 : Int32)) % (1024 : Int32))))]))
    refine Goes.pre (fun t kt => XS.i2dS X0.here hx rfl (hb hby at_42) rfl (v := FP.l2d ((1 : Int32) + ((p2 &&& (2147483647 : Int32)) % (1024 : Int32))).toInt64) (i2d_w _) kt) ?_
    show Goes p e below s _ _ _ (s₁.setTop (mkF m 43 #[.val (.int p1), .val (.int p2), .val (.int p3), .val (.int (1 : Int32)), .val (.int ((1 : Int32) + ((p2 &&& (2147483647 : Int32)) % (1024 : Int32)))), .val (.int ((1 : Int32) + ((p1 &&& (2147483647 : Int32)) % (640 : Int32)))), .unset, .unset, .unset, .unset, .unset, .unset, .unset] [(.double (FP.l2d ((1 : Int32) + ((p2 &&& (2147483647 : Int32)) % (1024 : Int32))).toInt64))]))
    refine Goes.pre (X0.ldc2DoubleC hx hown (mvT hZ (hw _ (List.mem_of_getElem? (i := 1) rfl))) (g := (mkF m 43 #[.val (.int p1), .val (.int p2), .val (.int p3), .val (.int (1 : Int32)), .val (.int ((1 : Int32) + ((p2 &&& (2147483647 : Int32)) % (1024 : Int32)))), .val (.int ((1 : Int32) + ((p1 &&& (2147483647 : Int32)) % (640 : Int32)))), .unset, .unset, .unset, .unset, .unset, .unset, .unset] [(.double (FP.l2d ((1 : Int32) + ((p2 &&& (2147483647 : Int32)) % (1024 : Int32))).toInt64))])) rfl (hb hby at_43)) ?_
    show Goes p e below s _ _ _ (s₁.setTop (mkF m 46 #[.val (.int p1), .val (.int p2), .val (.int p3), .val (.int (1 : Int32)), .val (.int ((1 : Int32) + ((p2 &&& (2147483647 : Int32)) % (1024 : Int32)))), .val (.int ((1 : Int32) + ((p1 &&& (2147483647 : Int32)) % (640 : Int32)))), .unset, .unset, .unset, .unset, .unset, .unset, .unset] [(.double (4652218415073722368 : UInt64)), (.double (FP.l2d ((1 : Int32) + ((p2 &&& (2147483647 : Int32)) % (1024 : Int32))).toInt64))]))
    obtain ⟨nN, nN1, nN2, nN3, nN4, nN5⟩ := own_neg p2 p1
    refine Goes.pre (fun t kt => XS.ddivS X0.here hx rfl (hb hby at_46) rfl (nN2.symm ▸ (own_fine_nn nN3).1) (v := (own_load nN)) nN2 kt) ?_
    show Goes p e below s _ _ _ (s₁.setTop (mkF m 47 #[.val (.int p1), .val (.int p2), .val (.int p3), .val (.int (1 : Int32)), .val (.int ((1 : Int32) + ((p2 &&& (2147483647 : Int32)) % (1024 : Int32)))), .val (.int ((1 : Int32) + ((p1 &&& (2147483647 : Int32)) % (640 : Int32)))), .unset, .unset, .unset, .unset, .unset, .unset, .unset] [(.double (own_load nN))]))
    refine Goes.pre (fun t kt => XS.dnegS X0.here hx rfl (hb hby at_47) rfl (v := (FP.dneg (own_load nN))) rfl kt) ?_
    show Goes p e below s _ _ _ (s₁.setTop (mkF m 48 #[.val (.int p1), .val (.int p2), .val (.int p3), .val (.int (1 : Int32)), .val (.int ((1 : Int32) + ((p2 &&& (2147483647 : Int32)) % (1024 : Int32)))), .val (.int ((1 : Int32) + ((p1 &&& (2147483647 : Int32)) % (640 : Int32)))), .unset, .unset, .unset, .unset, .unset, .unset, .unset] [(.double (FP.dneg (own_load nN)))]))
    refine Goes.pre (fun t kt => XS.dstore X0.here hx rfl (hb hby at_48) rfl (l' := #[.val (.int p1), .val (.int p2), .val (.int p3), .val (.int (1 : Int32)), .val (.int ((1 : Int32) + ((p2 &&& (2147483647 : Int32)) % (1024 : Int32)))), .val (.int ((1 : Int32) + ((p1 &&& (2147483647 : Int32)) % (640 : Int32)))), .val (.double (FP.dneg (own_load nN))), .second, .unset, .unset, .unset, .unset, .unset]) rfl kt) ?_
    show Goes p e below s _ _ _ (s₁.setTop (mkF m 50 #[.val (.int p1), .val (.int p2), .val (.int p3), .val (.int (1 : Int32)), .val (.int ((1 : Int32) + ((p2 &&& (2147483647 : Int32)) % (1024 : Int32)))), .val (.int ((1 : Int32) + ((p1 &&& (2147483647 : Int32)) % (640 : Int32)))), .val (.double (FP.dneg (own_load nN))), .second, .unset, .unset, .unset, .unset, .unset] []))
    refine Goes.pre (fun t kt => XS.iload X0.here hx rfl (hb hby at_50) rfl kt) ?_
    show Goes p e below s _ _ _ (s₁.setTop (mkF m 52 #[.val (.int p1), .val (.int p2), .val (.int p3), .val (.int (1 : Int32)), .val (.int ((1 : Int32) + ((p2 &&& (2147483647 : Int32)) % (1024 : Int32)))), .val (.int ((1 : Int32) + ((p1 &&& (2147483647 : Int32)) % (640 : Int32)))), .val (.double (FP.dneg (own_load nN))), .second, .unset, .unset, .unset, .unset, .unset] [(.int ((1 : Int32) + ((p1 &&& (2147483647 : Int32)) % (640 : Int32))))]))
    refine Goes.pre (fun t kt => XS.dload X0.here hx rfl (hb hby at_52) rfl kt) ?_
    show Goes p e below s _ _ _ (s₁.setTop (mkF m 54 #[.val (.int p1), .val (.int p2), .val (.int p3), .val (.int (1 : Int32)), .val (.int ((1 : Int32) + ((p2 &&& (2147483647 : Int32)) % (1024 : Int32)))), .val (.int ((1 : Int32) + ((p1 &&& (2147483647 : Int32)) % (640 : Int32)))), .val (.double (FP.dneg (own_load nN))), .second, .unset, .unset, .unset, .unset, .unset] [(.double (FP.dneg (own_load nN))), (.int ((1 : Int32) + ((p1 &&& (2147483647 : Int32)) % (640 : Int32))))]))
    obtain ⟨_, _, ⟨T3, L3, k3, n3⟩, -, X3, ⟨Lc3, hQ3, l3, y3, z3⟩, st3⟩ := Jvm.LawKit.callS X0 hx (y := (⟨"com/example/libshed/libshed/limit/PriorityShedding", "sheds", "(ID)Z"⟩ : MethodName)) hown (mvT hZ (hw _ (List.mem_of_getElem? (i := 5) rfl))) (mvT hZ (hw _ (List.mem_of_getElem? (i := 6) rfl))) (mvT hZ (hw _ (List.mem_of_getElem? (i := 7) rfl))) (mvT hZ (hw _ (List.mem_of_getElem? (i := 8) rfl))) (by decide) (backOf (W := 0) (rm1 l Z a0 hw [] ((1 : Int32) + ((p1 &&& (2147483647 : Int32)) % (640 : Int32))) (FP.dneg (own_load nN)) h0 n0 Z0 pf_S_com_example_libshed_libshed_limit_PriorityShedding_GROUPS ((own_fine_nn nN4).2.1) ((own_fine_nn nN4).2.2.1) ((own_fine_nn nN4).2.2.2.1) ((own_fine_nn nN4).2.2.2.2.1) X00) hZ (hw _ (List.mem_of_getElem? (i := 8) rfl)) (hw _ (List.mem_of_getElem? (i := 7) rfl)) (by decide) (by decide)) (g := (mkF m 54 #[.val (.int p1), .val (.int p2), .val (.int p3), .val (.int (1 : Int32)), .val (.int ((1 : Int32) + ((p2 &&& (2147483647 : Int32)) % (1024 : Int32)))), .val (.int ((1 : Int32) + ((p1 &&& (2147483647 : Int32)) % (640 : Int32)))), .val (.double (FP.dneg (own_load nN))), .second, .unset, .unset, .unset, .unset, .unset] [(.double (FP.dneg (own_load nN))), (.int ((1 : Int32) + ((p1 &&& (2147483647 : Int32)) % (640 : Int32))))])) rfl (by rw [hml]; rfl) (argsL := [(.int ((1 : Int32) + ((p1 &&& (2147483647 : Int32)) % (640 : Int32)))), (.double (FP.dneg (own_load nN)))]) (rest := []) (lenOf pd_1 rfl) rfl (by show 2 * 0 + _ ≤ _; exact Nat.le_of_eq rfl) (hb hby at_54) (fun _ _ => ⟨rfl, e0, (by decide : 0 + 0 ≤ _), (by decide : 0 + 0 ≤ _)⟩)
    dsimp only [Pt.U, Pt.locs, Pt.cells, Pt.slots] at X3 l3 y3 z3 st3 hQ3
    subst l3 y3 z3
    obtain ⟨rfl, Nq3, eq3⟩ := hQ3
    refine Goes.pre st3 ?_
    have N3 := Fr.app N0 Nq3
    show Goes p e below s _ _ _ (T3.setTop (mkF m 57 #[.val (.int p1), .val (.int p2), .val (.int p3), .val (.int (1 : Int32)), .val (.int ((1 : Int32) + ((p2 &&& (2147483647 : Int32)) % (1024 : Int32)))), .val (.int ((1 : Int32) + ((p1 &&& (2147483647 : Int32)) % (640 : Int32)))), .val (.double (FP.dneg (own_load nN))), .second, .unset, .unset, .unset, .unset, .unset] [(.int (own_shed ((1 : Int32) + ((p1 &&& (2147483647 : Int32)) % (640 : Int32))) (FP.dneg (own_load nN))))]))
    refine Goes.pre (fun t kt => XS.istore X3.here hx rfl (hb hby at_57) rfl (l' := #[.val (.int p1), .val (.int p2), .val (.int p3), .val (.int (1 : Int32)), .val (.int ((1 : Int32) + ((p2 &&& (2147483647 : Int32)) % (1024 : Int32)))), .val (.int ((1 : Int32) + ((p1 &&& (2147483647 : Int32)) % (640 : Int32)))), .val (.double (FP.dneg (own_load nN))), .second, .val (.int (own_shed ((1 : Int32) + ((p1 &&& (2147483647 : Int32)) % (640 : Int32))) (FP.dneg (own_load nN)))), .unset, .unset, .unset, .unset]) rfl kt) ?_
    show Goes p e below s _ _ _ (T3.setTop (mkF m 59 #[.val (.int p1), .val (.int p2), .val (.int p3), .val (.int (1 : Int32)), .val (.int ((1 : Int32) + ((p2 &&& (2147483647 : Int32)) % (1024 : Int32)))), .val (.int ((1 : Int32) + ((p1 &&& (2147483647 : Int32)) % (640 : Int32)))), .val (.double (FP.dneg (own_load nN))), .second, .val (.int (own_shed ((1 : Int32) + ((p1 &&& (2147483647 : Int32)) % (640 : Int32))) (FP.dneg (own_load nN)))), .unset, .unset, .unset, .unset] []))
    refine Goes.pre (fun t kt => XS.iload X3.here hx rfl (hb hby at_59) rfl kt) ?_
    show Goes p e below s _ _ _ (T3.setTop (mkF m 61 #[.val (.int p1), .val (.int p2), .val (.int p3), .val (.int (1 : Int32)), .val (.int ((1 : Int32) + ((p2 &&& (2147483647 : Int32)) % (1024 : Int32)))), .val (.int ((1 : Int32) + ((p1 &&& (2147483647 : Int32)) % (640 : Int32)))), .val (.double (FP.dneg (own_load nN))), .second, .val (.int (own_shed ((1 : Int32) + ((p1 &&& (2147483647 : Int32)) % (640 : Int32))) (FP.dneg (own_load nN)))), .unset, .unset, .unset, .unset] [(.int (own_shed ((1 : Int32) + ((p1 &&& (2147483647 : Int32)) % (640 : Int32))) (FP.dneg (own_load nN))))]))
    refine Goes.pre (fun t kt => XS.ifNo X3.here hx rfl (hb hby at_61) rfl (Jvm.Free.XT.i0_ne_f (nN5)) kt) ?_
    show Goes p e below s _ _ _ (T3.setTop (mkF m 64 #[.val (.int p1), .val (.int p2), .val (.int p3), .val (.int (1 : Int32)), .val (.int ((1 : Int32) + ((p2 &&& (2147483647 : Int32)) % (1024 : Int32)))), .val (.int ((1 : Int32) + ((p1 &&& (2147483647 : Int32)) % (640 : Int32)))), .val (.double (FP.dneg (own_load nN))), .second, .val (.int (own_shed ((1 : Int32) + ((p1 &&& (2147483647 : Int32)) % (640 : Int32))) (FP.dneg (own_load nN)))), .unset, .unset, .unset, .unset] []))
    refine Goes.pre (fun t kt => XS.iconst X3.here hx rfl (hb hby at_64) kt) ?_
    show Goes p e below s _ _ _ (T3.setTop (mkF m 65 #[.val (.int p1), .val (.int p2), .val (.int p3), .val (.int (1 : Int32)), .val (.int ((1 : Int32) + ((p2 &&& (2147483647 : Int32)) % (1024 : Int32)))), .val (.int ((1 : Int32) + ((p1 &&& (2147483647 : Int32)) % (640 : Int32)))), .val (.double (FP.dneg (own_load nN))), .second, .val (.int (own_shed ((1 : Int32) + ((p1 &&& (2147483647 : Int32)) % (640 : Int32))) (FP.dneg (own_load nN)))), .unset, .unset, .unset, .unset] [(.int (1 : Int32))]))
    refine Goes.pre (fun t kt => XS.goto X3.here hx rfl (pc0 := 65) (pc' := 69) rfl (hb hby at_65) (by decide) (by decide) kt) ?_
    show Goes p e below s _ _ _ (T3.setTop (mkF m 69 #[.val (.int p1), .val (.int p2), .val (.int p3), .val (.int (1 : Int32)), .val (.int ((1 : Int32) + ((p2 &&& (2147483647 : Int32)) % (1024 : Int32)))), .val (.int ((1 : Int32) + ((p1 &&& (2147483647 : Int32)) % (640 : Int32)))), .val (.double (FP.dneg (own_load nN))), .second, .val (.int (own_shed ((1 : Int32) + ((p1 &&& (2147483647 : Int32)) % (640 : Int32))) (FP.dneg (own_load nN)))), .unset, .unset, .unset, .unset] [(.int (1 : Int32))]))
    refine Goes.ret X3 (some (.int (1 : Int32))) (fun h => by rw [Bd.returns] at h; cases h) (BodyLoose.notSynchronized Bd) (by decide) (by decide) (fun fs hr => retN X3 hx (t := .boolean) Bd.returns (by simp) (hb hby at_69) hr) ?_
    show Q_rm0 Z p1 p2 p3 h0 n0 _ T3.heap _
    rw [eq3]
    exact ⟨rfl, N3⟩
set_option maxRecDepth 65536 in
set_option maxHeartbeats 40000000 in
theorem comes_1 {Post : Tables → Env → Array Value → State → Outcome → State → Prop} (hpost : ∀ tb e args s v u, (limb_1_1.after args s (.returned v) u = true ∧ limb_1_2.after args s (.returned v) u = true ∧ True) → FrameEnd s (.returned v) u (Jvm.fieldLocs frame_1_writes args s ++ Jvm.arrayLocs frame_1_arrays args s ++ Jvm.staticLocs frame_1_statics s) 0 0 → Post tb e args s (.returned v) u) :
    ArmFor flags0 classFile x code maxLocals ret World_1 tables_1 room_1 Calls_1 rest_1 Pre_1 Post := by
  intro l hfl _ _ p e ha hc hk s m args below hf hA hF happ hP
  obtain ⟨hcalls, hrest, hpre⟩ := hP
  obtain ⟨-, -, -, hnamed, -, -, -, hat⟩ := (Spec.applies_iff hf).mp happ
  obtain ⟨hg, hn⟩ := and_e (Cond.before_iff.mp (show (Jvm.Cond.and given_1 narrow_1).before args s = true from hpre))
  obtain ⟨gv1, gv2⟩ := and_e hg
  obtain ⟨gv3, gv4⟩ := and_e gv2
  obtain ⟨gv5, gv6⟩ := and_e gv4
  obtain ⟨w0, w1, w2, rfl⟩ : ∃ w0 w1 w2 : Value, args = #[w0, w1, w2] := by
    have hs : args.size = 3 := by simpa [Cond.value, given_1] using gv1
    obtain ⟨L⟩ := args
    match L, hs with
    | [w0, w1, w2], _ => exact ⟨w0, w1, w2, rfl⟩
  have hw := fun d (hd : d ∈ tables_1) => atoms_spec (ws := Jvm.Cond.code x code maxLocals ret :: tables_1) hat d (List.mem_cons_of_mem _ hd)
  have hfit : Fit s := fun {y c} hc i hi => by
    obtain ⟨ha, rfl⟩ := Array.getElem?_eq_some_iff.mp hc
    have q := List.all_eq_true.mp ((Array.all_eq_true_iff_forall_mem.mp hF) _ (Array.getElem_mem ha)) i (List.mem_range.mpr hi)
    simpa [Array.getElem?_eq_getElem hi] using q
  obtain ⟨i0, ei0⟩ := is_v gv3
  obtain rfl : w0 = (.int i0) := Option.some.inj ei0
  obtain ⟨i1, ei1⟩ := is_v gv5
  obtain rfl : w1 = (.int i1) := Option.some.inj ei1
  obtain ⟨i2, ei2⟩ := is_v gv6
  obtain rfl : w2 = (.int i2) := Option.some.inj ei2
  obtain ⟨xg, yg, eg1, eg2, -, -⟩ := cmp_v (Or.inl hn)
  obtain rfl : yg = .int (640 : Int32) := Option.some.inj (eg2.symm.trans (Term.int_eval 640))
  obtain rfl : xg = .int (640 : Int32) := by
    cases xg <;> simp [Cond.value, narrow_1, eg1, eg2] at hn
    · subst hn; rfl
  obtain ⟨n, o, h1, h2, h3, _, L, rfl, ⟨rfl, N⟩, hq⟩ := rm0 l s _ hw tables_1 i0 i1 i2  s.heap s.heap.size (Nat.le_refl _) (Sta.start eg1 (Or.inr ⟨hw _ (List.mem_of_getElem? (i := 7) rfl), hw _ (List.mem_of_getElem? (i := 10) rfl)⟩)) (Old.start s) p e ha hc hk s m _ below hf ((Spec.applies_iff_loose hf).mp happ).1 ⟨rfl, State.Warmed39.refl s, rfl⟩ trivial
  refine ⟨n, _, h1, h2, h3, hpost _ _ _ _ _ _ ⟨Cond.after_iff.mpr rfl, Cond.after_iff.mpr (eq_i res_at (Term.int_eval (1)) rfl), trivial⟩ ⟨hq.1, hq.2.1, (hq.2.2.sift fun y hy => Or.inr (N y hy)).mono (by decide) (by decide)⟩⟩
theorem main_1_1 : Claimed_1_1 := comes_1 fun _ _ _ _ _ _ h hF => ⟨h.1, hF⟩
theorem main_1_2 : Claimed_1_2 := comes_1 fun _ _ _ _ _ _ h hF => ⟨h.2.1, hF⟩
end Jvm.Pilot.@@N@@
namespace Jvm.Pilot.@@N@@
open Jvm Jvm.ClassFile Sem Op Lib Jvm.Free Jvm.Stand Jvm.Pilot.@@N@@.Jvm.D
/-! MADE BY PROGRAM (witnessworld.py) out of the Statement's table words and the real class files: 9 classes; the members and pool entries that the words name. The judged class is class 1, her method 1. -/
namespace start1
open Jvm.ClassFile
def u (s : String) : CpInfo := .utf8 (stringToUtf16 s)
/-- a pool by its gaps: so many unusable entries, then the entry; so many at the end -/
def gap : Nat → List CpInfo → List CpInfo
  | 0, r => r
  | n + 1, r => .unusable :: gap n r
def poolList (es : List (Nat × CpInfo)) (last : Nat) : List CpInfo := es.foldr (fun e r => gap e.1 (e.2 :: r)) (gap last [])
def pool (es : List (Nat × CpInfo)) (last : Nat) : Array CpInfo := ⟨poolList es last⟩
def fileOf (pool : Array CpInfo) (this : Nat) (attrs : Array Attribute := #[]) (ms : Array MethodInfo := #[]) (fl : Nat := 33) (sup : Nat := 0) (ifs : Array Nat := #[]) (fds : Array FieldInfo := #[]) : ClassFile where
  minorVersion := 0
  majorVersion := 65
  constantPool := pool
  accessFlags := fl
  thisClass := this
  superClass := sup
  interfaces := ifs
  fields := fds
  methods := ms
  attributes := attrs
def plain (name : String) (sup : Option ClassId) : Class where
  name := name
  kind := .ordinary
  loader := none
  accessFlags := 33
  super := sup
  interfaces := #[]
  cf := none
  fields := #[]
  methods := #[]
  instanceTypes := #[]
  staticTypes := #[]
  resolved := #[]
  callSites := []
  init := .initialized
  statics := none
  mirror := none

def pool0 : Array CpInfo := pool [(5, u "<init>"), (0, u "()V"), (1, .class_ 10), (1, u "java/lang/Object")] 113

def k0m0 : Method := { name := "<init>", desc := "()V", sig := { parameters := [], returnType := none }, accessFlags := 1, code := none }
/-- java/lang/Object -/
def k0 : Class := { plain "java/lang/Object" none with
  accessFlags := 33
  interfaces := #[]
  cf := some (fileOf pool0 8 #[] #[{ accessFlags := 1, nameIndex := 5, descriptorIndex := 6, attributes := #[] }] 33 0 #[] #[])
  fields := #[]
  methods := #[k0m0]
  instanceTypes := #[]
  staticTypes := #[]
  resolved := Array.replicate 124 none
  statics := none }

def pool1 : Array CpInfo := pool [(2, .class_ 4), (1, u "java/lang/Object"), (0, u "<init>"), (0, u "()V"), (0, .integer 2147483647), (0, .double 4652218415073722368), (1, .methodref 11 12), (0, .class_ 13), (0, .nameAndType 14 15), (0, u "com/example/libshed/libshed/limit/PriorityShedding"), (0, u "sheds"), (0, u "(ID)Z"), (0, .long 8388608), (1, .long 5), (1, .long 1073741824), (1, .class_ 23), (0, u "com/example/libshed/libshed/limit/PrioritySheddingShedsPinLaw"), (2, u "law"), (0, u "(III)Z")] 3

def k1m0 : Method := { name := "<init>", desc := "()V", sig := { parameters := [], returnType := none }, accessFlags := 2, code := none }
def k1c1 : Code := { maxStack := 8, maxLocals := 13, code := code, exceptionTable := #[], attributes := #[] }
def k1m1 : Method := { name := "law", desc := "(III)Z", sig := { parameters := [.int, .int, .int], returnType := some .boolean }, accessFlags := 9, code := some k1c1 }
/-- com/example/libshed/libshed/limit/PrioritySheddingShedsPinLaw -/
def k1 : Class := { plain "com/example/libshed/libshed/limit/PrioritySheddingShedsPinLaw" (some 0) with
  accessFlags := 49
  interfaces := #[]
  cf := some (fileOf pool1 22 #[] #[{ accessFlags := 2, nameIndex := 5, descriptorIndex := 6, attributes := #[] }, { accessFlags := 9, nameIndex := 26, descriptorIndex := 27, attributes := #[] }] 49 2 #[] #[])
  fields := #[]
  methods := #[k1m0, k1m1]
  instanceTypes := #[]
  staticTypes := #[]
  resolved := Array.replicate 31 none
  statics := none }

def pool2 : Array CpInfo := pool [(2, .class_ 4), (1, u "java/lang/Object"), (0, u "<init>"), (0, u "()V"), (0, .class_ 8), (0, u "com/example/libshed/libshed/limit/PriorityShedding"), (23, .fieldref 7 33), (0, .nameAndType 34 35), (0, u "GROUPS"), (0, u "I"), (2, u "NANOS_PER_HOUR"), (0, u "J"), (22, u "COHORT_BITS"), (20, u "COHORTS"), (2, u "FNV_PRIME"), (0, u "GOLDEN"), (4, u "sheds"), (0, u "(ID)Z")] 8

def k2m0 : Method := { name := "<init>", desc := "()V", sig := { parameters := [], returnType := none }, accessFlags := 2, code := none }
def k2c1 : Code := { maxStack := 10, maxLocals := 3, code := prog_27_method_3_code, exceptionTable := #[], attributes := #[] }
def k2m1 : Method := { name := "sheds", desc := "(ID)Z", sig := { parameters := [.int, .double], returnType := some .boolean }, accessFlags := 9, code := some k2c1 }
/-- com/example/libshed/libshed/limit/PriorityShedding -/
def k2 : Class := { plain "com/example/libshed/libshed/limit/PriorityShedding" (some 0) with
  accessFlags := 49
  interfaces := #[]
  cf := some (fileOf pool2 7 #[] #[{ accessFlags := 2, nameIndex := 5, descriptorIndex := 6, attributes := #[] }, { accessFlags := 9, nameIndex := 92, descriptorIndex := 93, attributes := #[] }] 49 2 #[] #[{ accessFlags := 25, nameIndex := 83, descriptorIndex := 35, attributes := #[] }, { accessFlags := 25, nameIndex := 34, descriptorIndex := 35, attributes := #[] }, { accessFlags := 26, nameIndex := 38, descriptorIndex := 39, attributes := #[] }, { accessFlags := 26, nameIndex := 62, descriptorIndex := 35, attributes := #[] }, { accessFlags := 26, nameIndex := 86, descriptorIndex := 39, attributes := #[] }, { accessFlags := 26, nameIndex := 87, descriptorIndex := 39, attributes := #[] }])
  fields := #[{ name := "COHORTS", type := .int, accessFlags := 25, slot := 0, constantValue := 0 }, { name := "GROUPS", type := .int, accessFlags := 25, slot := 1, constantValue := 0 }, { name := "NANOS_PER_HOUR", type := .long, accessFlags := 26, slot := 2, constantValue := 0 }, { name := "COHORT_BITS", type := .int, accessFlags := 26, slot := 3, constantValue := 0 }, { name := "FNV_PRIME", type := .long, accessFlags := 26, slot := 4, constantValue := 0 }, { name := "GOLDEN", type := .long, accessFlags := 26, slot := 5, constantValue := 0 }]
  methods := #[k2m0, k2m1]
  instanceTypes := #[]
  staticTypes := #[.int, .int, .long, .int, .long, .long]
  resolved := Array.replicate 102 none
  statics := some 0 }

def pool3 : Array CpInfo := pool [(1, u "java/lang/Cloneable"), (0, .class_ 1), (0, u "java/lang/Object"), (0, .class_ 3)] 3

/-- java/lang/Cloneable -/
def k3 : Class := { plain "java/lang/Cloneable" (some 0) with
  accessFlags := 1537
  interfaces := #[]
  cf := some (fileOf pool3 2 #[] #[] 1537 4 #[] #[])
  fields := #[]
  methods := #[]
  instanceTypes := #[]
  staticTypes := #[]
  resolved := Array.replicate 8 none
  statics := none }

def pool4 : Array CpInfo := pool [(1, u "java/io/Serializable"), (0, .class_ 1), (0, u "java/lang/Object"), (0, .class_ 3)] 3

/-- java/io/Serializable -/
def k4 : Class := { plain "java/io/Serializable" (some 0) with
  accessFlags := 1537
  interfaces := #[]
  cf := some (fileOf pool4 2 #[] #[] 1537 4 #[] #[])
  fields := #[]
  methods := #[]
  instanceTypes := #[]
  staticTypes := #[]
  resolved := Array.replicate 8 none
  statics := none }

/-- the primitive byte -/
def k5 : Class := { plain "byte" none with kind := .primitive 'B', accessFlags := 0x411 }
/-- [B -/
def k6 : Class := { plain "[B" (some 0) with kind := .array 5 .byte, interfaces := #[3, 4], accessFlags := 1041 }

/-- the primitive int -/
def k7 : Class := { plain "int" none with kind := .primitive 'I', accessFlags := 0x411 }
/-- [I -/
def k8 : Class := { plain "[I" (some 0) with kind := .array 7 .int, interfaces := #[3, 4], accessFlags := 1041 }

def heap : Heap := #[{ cls := 2, slots := #[.int 0, .int 640, .long 0, .int 0, .long 0, .long 0], vm := .statics 2 }]
def classes : Array Class := #[k0, k1, k2, k3, k4, k5, k6, k7, k8]
def interned : List (Array UInt16 × Addr) := []
def slotsUsed : Nat := 6
def theMethod : MethodId := ⟨1, 1⟩
def args0 : Array Value := #[.int 5, .int 3, .int 3]
def aboutOver (below : List Frame) : State where
  vm := { classes := classes, interned := interned.toArray }
  heap := heap
  slotsUsed := slotsUsed
  threads := #[{ frames := .invoking theMethod args0 :: below }]
def below0 : List Frame := [.native { method := ⟨0, 0⟩, args := #[] }]
def about1 : State := aboutOver below0
def p0 : Program := .bare "" "" ""
def e0 : Env := launch0.env 0 0 0
theorem w_frames : about1.frames = Frame.invoking theMethod args0 :: below0 := rfl
set_option maxRecDepth 65536 in
theorem w_args : argsFit about1.vm theMethod args0 = true := by decide +kernel
set_option maxRecDepth 65536 in
theorem w_heap : heapFits about1 = true := by decide +kernel
set_option maxRecDepth 65536 in
theorem w_runnable : about1.curStatus? = some .runnable := by decide +kernel
set_option maxRecDepth 65536 in
theorem w_alone : about1.alone = true := by decide +kernel
set_option maxRecDepth 65536 in
theorem w_named : about1.methodNamed? x = some theMethod := by decide +kernel
set_option maxRecDepth 65536 in
theorem w_hears : about1.hears theMethod below0 = true := by decide +kernel
set_option maxRecDepth 65536 in
theorem w_ripe : about1.ripe theMethod args0 below0 = true := by decide +kernel
theorem w_running : about1.status = .running := rfl
set_option maxRecDepth 65536 in
theorem w_room : about1.hasRoom e0.platform room_1 = true :=
  launch0.hasRoom_least _ room_1 (by decide +kernel) (by decide +kernel) (by decide +kernel) (by decide +kernel) (by decide +kernel) (by decide +kernel)
theorem allAtoms_all (ts : List Jvm.Cond) (a : Array Jvm.Value) (st : Jvm.State) : (allAtoms ts).before a st = ts.all (fun c => c.before a st) := by
  induction ts with
  | nil => rfl
  | cons c t ih =>
    show (Jvm.Cond.and c (allAtoms t)).before a st = _
    rw [Jvm.Cond.before_and, ih, List.all_cons]
def words1 : List Jvm.Cond := Jvm.Cond.code x code maxLocals ret :: tables_1
/-- a 'code' word, met by the world's own term for the bytes: nothing is compared byte by byte -/
theorem code_word {y : MethodName} {bytes : ByteArray} {mx : Nat} {rt : Option FieldType} {a : Array Value} {s : State} {m : MethodId} {meth : Method} {c : Code} (h1 : s.methodNamed? y = some m) (h2 : s.vm.method? m = some meth) (h3 : meth.code = some c) (h4 : c.code = bytes)
    (h5 : (c.maxLocals == mx && c.exceptionTable.isEmpty && decide (c.maxStack ≤ mostOperands) && decide (meth.sig.returnType = rt) && !meth.locks && decide (parseMethodDescriptor y.desc = some meth.sig)) = true) : (Jvm.Cond.code y bytes mx rt).before a s = true := by
  simp only [Bool.and_eq_true, beq_iff_eq, Bool.not_eq_true', decide_eq_true_eq] at h5
  obtain ⟨⟨⟨⟨⟨g1, g2⟩, g3⟩, g4⟩, g5⟩, g6⟩ := h5
  simp [Cond.before, Cond.holds, Cond.value, h1, h2, h3, h4, g1, g2, g3, g4, g5, g6]
def isCode : Jvm.Cond → Bool
  | .code _ _ _ _ => true
  | _ => false
theorem all_split {L : List Jvm.Cond} {P : Jvm.Cond → Bool} (h1 : L.all (fun c => isCode c || P c) = true) (h2 : ∀ c ∈ L.filter isCode, P c = true) : L.all P = true := by
  refine List.all_eq_true.mpr fun c hc => ?_
  have h := List.all_eq_true.mp h1 c hc
  rcases Bool.eq_false_or_eq_true (isCode c) with hi | hi
  · exact h2 c (List.mem_filter.mpr ⟨hc, hi⟩)
  · simpa [hi] using h
set_option maxRecDepth 65536 in
theorem w_c0 : (Jvm.Cond.code x code maxLocals ret).before args0 about1 = true := code_word (m := ⟨1, 1⟩) (meth := k1m1) (c := k1c1) (by decide +kernel) rfl rfl rfl (by decide +kernel)
set_option maxRecDepth 65536 in
theorem w_c1 : (Jvm.Cond.code ({ cls := "com/example/libshed/libshed/limit/PriorityShedding", name := "sheds", desc := "(ID)Z" } : Jvm.MethodName) prog_27_method_3_code (3 : Nat) (Option.some Jvm.ClassFile.FieldType.boolean)).before args0 about1 = true := code_word (m := ⟨2, 1⟩) (meth := k2m1) (c := k2c1) (by decide +kernel) rfl rfl rfl (by decide +kernel)
def codes1 : List Jvm.Cond := [Jvm.Cond.code x code maxLocals ret, Jvm.Cond.code ({ cls := "com/example/libshed/libshed/limit/PriorityShedding", name := "sheds", desc := "(ID)Z" } : Jvm.MethodName) prog_27_method_3_code (3 : Nat) (Option.some Jvm.ClassFile.FieldType.boolean)]
set_option maxRecDepth 65536 in
theorem codes_eq : words1.filter isCode = codes1 := rfl
theorem w_codes : ∀ c ∈ words1.filter isCode, c.before args0 about1 = true := by
  rw [codes_eq]
  intro c hc
  simp only [codes1, List.mem_cons, List.not_mem_nil, or_false] at hc
  rcases hc with rfl | rfl
  · exact w_c0
  · exact w_c1
set_option maxRecDepth 65536 in
theorem w_t1 : words1.all (fun c => isCode c || c.before args0 about1) = true := by decide +kernel
theorem w_tables : (allAtoms (Jvm.Cond.code x code maxLocals ret :: tables_1)).before args0 about1 = true := by
  rw [allAtoms_all]
  show words1.all (fun c => c.before args0 about1) = true
  refine all_split ?_ w_codes
  rw [w_t1]
set_option maxRecDepth 65536 in
theorem w_case : (Jvm.Cond.and given_1 narrow_1).before args0 about1 = true := by decide +kernel
theorem w_applies : (headSpec (Jvm.Cond.code x code maxLocals ret :: tables_1) room_1).applies x e0.platform about1 = true :=
  (Spec.applies_iff w_frames).mpr ⟨w_running, w_runnable, w_alone, w_named, w_hears, w_ripe, w_room, w_tables⟩
theorem atStart : AtStart classFile x code maxLocals ret World_1 tables_1 room_1 Calls_1 rest_1 Pre_1 launch0 p0 e0 about1 theMethod args0 below0 :=
  ⟨lists_1, trivial, launch0.admits_env _ _ _, launch0.least_env, fairChoices_fair.cas, fairChoices_fair.clock, w_frames, w_args, w_heap, w_applies, trivial, trivial, w_case⟩
end start1
theorem witness_1 : WitnessClaimed_1 := ⟨start1.p0, start1.e0, start1.about1, start1.theMethod, start1.args0, start1.below0, start1.atStart⟩
end Jvm.Pilot.@@N@@
