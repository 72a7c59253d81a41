import JvmDerived
import JvmDerived.Pilot.@@N@@Statement
import JvmDerived.Pilot.@@N@@Code
set_option linter.unusedVariables false
set_option linter.unusedSimpArgs false
namespace Jvm.Pilot.@@N@@
open Jvm Jvm.ClassFile Sem Op Lib Jvm.Free Jvm.Stand Jvm.LawKit Jvm.RoadKit Bundle Jvm.Pilot.@@N@@.Jvm.D
/-- from A the run comes to an end of the body that says P -/
def Goes (p : Program) (e : Env) (below : List Frame) (s : State) (P : Option Value → Heap → List Loc → Prop) (k n : Nat) (A : State) : Prop :=
  ∃ s₂ o, Steps p.tables e below A s₂ ∧ s₂.status = .running ∧ Ended s₂ below o ∧ ∃ v L, o = .returned v ∧ P v s₂.heap L ∧ FrameEnd s o s₂ L k n
section OwnGoes
variable {p : Program} {l : Launch} {e : Env} {R : Room} {s : State} {m : MethodId} {args : Array Value} {below : List Frame} {meth : Method} {c : Code} {T : State} {locs : List Loc} {cells slots : Nat} {P : Option Value → Heap → List Loc → Prop} {k n : Nat} {A B : State}
theorem Goes.pre (h : ∀ t, Steps p.tables e below B t → Steps p.tables e below A t) (g : Goes p e below s P k n B) : Goes p e below s P k n A := by
  obtain ⟨t, o, h1, r⟩ := g
  exact ⟨t, o, h _ h1, r⟩
theorem Goes.run (h : Steps p.tables e below A B) (g : Goes p e below s P k n B) : Goes p e below s P k n A := g.pre fun _ q => h.trans q
theorem Goes.ret (X : Stand p l e R s m args below meth c T locs cells slots) (v : Option Value) (hv : meth.sig.returnType = none → v = none) (hlocks : meth.locks = false) (hk : cells ≤ k) (hn : slots ≤ n) {f : JFrame}
    (st : ∀ fs : List Frame, (∀ (f : JFrame) (acts : List Action), f.method = m → f.locked = none → f.entered = [] → (doReturn e (T.setTop f) acts v).1 = T.setFrames fs) → Steps p.tables e below (T.setTop f) (T.setFrames fs))
    (hP : P v T.heap locs) : Goes p e below s P k n (T.setTop f) := by
  obtain ⟨fs, hr, hrun, hended, hW, hsame⟩ := X.leave (v := v) hv hlocks
  exact ⟨_, _, st fs hr, hrun, hended, _, _, rfl, hP, ⟨_, rfl⟩, hW, hsame.mono hk hn⟩
end OwnGoes
/-! arrays as functions -/
def OwnI (Z : State) (h : Heap) (a : Addr) (z : Int32) (f : Int32 → Int32) : Prop := ∃ c : Cell, Arr Z h a c .int ∧ c.slots.size = z.toNatClampNeg ∧ ¬ z < 0 ∧ ∀ j : Int32, ¬ j < 0 → j < z → c.slots[j.toNatClampNeg]? = some (.int (f j))
def OwnD (Z : State) (h : Heap) (a : Addr) (z : Int32) (f : Int32 → UInt64) : Prop := ∃ c : Cell, Arr Z h a c .double ∧ c.slots.size = z.toNatClampNeg ∧ ¬ z < 0 ∧ ∀ j : Int32, ¬ j < 0 → j < z → c.slots[j.toNatClampNeg]? = some (.double (f j))
def own_upd {α : Type} (f : Int32 → α) (j : Int32) (w : α) : Int32 → α := fun k => if k = j then w else f k
theorem own_upd_same {α : Type} (f : Int32 → α) (j : Int32) (w : α) : own_upd f j w j = w := if_pos rfl
theorem own_upd_ne {α : Type} {f : Int32 → α} {j k : Int32} {w : α} (h : ¬ k = j) : own_upd f j w k = f k := if_neg h
section OwnArr
variable {Z : State} {h h' : Heap} {a b : Addr} {z : Int32} {f : Int32 → Int32} {F : Int32 → UInt64} {sl : Nat} {w : Value} {ws : List Addr}
theorem OwnI.lt (V : OwnI Z h a z f) : a < h.size := by obtain ⟨c, A, -⟩ := V; exact A.lt
theorem OwnI.ext (V : OwnI Z h a z f) (E : Ext h h') : OwnI Z h' a z f := by obtain ⟨c, A, r⟩ := V; exact ⟨c, A.ext E, r⟩
theorem OwnI.other (V : OwnI Z h b z f) (W : Wr h h' a sl w) (q : b ≠ a) : OwnI Z h' b z f := by obtain ⟨c, A, r⟩ := V; exact ⟨c, A.other W q, r⟩
theorem OwnI.keep (V : OwnI Z h a z f) (K : Keep h h' ws) (q : a ∉ ws) : OwnI Z h' a z f := by obtain ⟨c, A, r⟩ := V; exact ⟨c, ⟨K.2.1 a c A.1 q, A.2⟩, r⟩
theorem OwnD.lt (V : OwnD Z h a z F) : a < h.size := by obtain ⟨c, A, -⟩ := V; exact A.lt
theorem OwnD.ext (V : OwnD Z h a z F) (E : Ext h h') : OwnD Z h' a z F := by obtain ⟨c, A, r⟩ := V; exact ⟨c, A.ext E, r⟩
theorem OwnD.other (V : OwnD Z h b z F) (W : Wr h h' a sl w) (q : b ≠ a) : OwnD Z h' b z F := by obtain ⟨c, A, r⟩ := V; exact ⟨c, A.other W q, r⟩
theorem OwnD.keep (V : OwnD Z h a z F) (K : Keep h h' ws) (q : a ∉ ws) : OwnD Z h' a z F := by obtain ⟨c, A, r⟩ := V; exact ⟨c, ⟨K.2.1 a c A.1 q, A.2⟩, r⟩
theorem OwnI.set {c : Cell} {j u : Int32} (A : Arr Z h a c .int) (S : c.slots.size = z.toNatClampNeg) (N : ¬ z < 0) (H : ∀ j : Int32, ¬ j < 0 → j < z → c.slots[j.toNatClampNeg]? = some (.int (f j))) (W : Wr h h' a j.toNatClampNeg (.int u)) (p1 : ¬ j < 0) (p2 : j < z) : OwnI Z h' a z (own_upd f j u) := by
  refine ⟨_, A.same W, by rw [sz_set]; exact S, N, fun k k1 k2 => ?_⟩
  by_cases e : k = j
  · rw [e, own_upd_same]; exact get_hit (inb_of S ⟨p1, p2⟩) rfl
  · rw [own_upd_ne e, get_miss p1 k1 e]; exact H k k1 k2
theorem OwnD.set {c : Cell} {j : Int32} {u : UInt64} (A : Arr Z h a c .double) (S : c.slots.size = z.toNatClampNeg) (N : ¬ z < 0) (H : ∀ j : Int32, ¬ j < 0 → j < z → c.slots[j.toNatClampNeg]? = some (.double (F j))) (W : Wr h h' a j.toNatClampNeg (.double u)) (p1 : ¬ j < 0) (p2 : j < z) : OwnD Z h' a z (own_upd F j u) := by
  refine ⟨_, A.same W, by rw [sz_set]; exact S, N, fun k k1 k2 => ?_⟩
  by_cases e : k = j
  · rw [e, own_upd_same]; exact get_hit (inb_of S ⟨p1, p2⟩) rfl
  · rw [own_upd_ne e, get_miss p1 k1 e]; exact H k k1 k2
theorem own_nat {j z : Int32} (h1 : ¬ j < 0) (h2 : j < z) : j.toNatClampNeg < z.toNatClampNeg := by
  have e1 := nat_of h1
  have k0 : (0 : Int32).toInt = 0 := by decide
  rw [Int32.lt_iff_toInt_lt] at h2 h1
  have e2 := nat_of (show ¬ z < 0 by rw [Int32.lt_iff_toInt_lt]; omega)
  omega
theorem own_getD {u : Int32} {d : Value} (n : Nat) : ∀ k, k < n → (List.replicate n (Value.int u)).getD k d = .int u := fun k hk => by
  simp [List.getD, List.getElem?_replicate, hk]
theorem OwnI.of {k : ClassId} {n : Nat} {u : Int32} {d : Value} (V : Arv Z h a k .int z (List.replicate n (.int u)) d) (hn : z.toNatClampNeg = n) : OwnI Z h a z (fun _ => u) := by
  obtain ⟨c, A, -, S, N, H, -⟩ := V
  refine ⟨c, A, S, N, fun j j1 j2 => ?_⟩
  have q := own_nat j1 j2
  rw [H _ (by rw [S]; exact q), own_getD n _ (by omega)]
theorem OwnD.of {k : ClassId} {n : Nat} {u : UInt64} {d : Value} (V : Arv Z h a k .double z (List.replicate n (.double u)) d) (hn : z.toNatClampNeg = n) : OwnD Z h a z (fun _ => u) := by
  obtain ⟨c, A, -, S, N, H, -⟩ := V
  refine ⟨c, A, S, N, fun j j1 j2 => ?_⟩
  have q := own_nat j1 j2
  rw [H _ (by rw [S]; exact q)]
  have : j.toNatClampNeg < n := by omega
  simp [List.getD, List.getElem?_replicate, this]
end OwnArr
/-! the table -/
def own_h (d : Int32) : Int32 := (((d * (-1640531527 : Int32)).toUInt32 >>> ((28 : Int32) &&& 31).toUInt32).toInt32)
def own_nx (s : Int32) : Int32 := ((s + (1 : Int32)) &&& (15 : Int32))
def own_e (d : Int32) : Nat → Int32
  | 0 => own_h d
  | k + 1 => own_nx (own_e d k)
theorem own_hR (d : Int32) : 0 ≤ (own_h d).toInt ∧ (own_h d).toInt < 16 := by
  have h := c_iushr (d * (-1640531527 : Int32)) (28 : Int32) 28 (by decide) (by decide)
  have r := rng32 (d * (-1640531527 : Int32))
  unfold own_h
  rw [h]
  omega
theorem own_nxE {s : Int32} (h0 : 0 ≤ s.toInt) (h1 : s.toInt < 16) : (own_nx s).toInt = (s.toInt + 1) % 16 := by
  have h := c_mask (s + (1 : Int32)) (15 : Int32) 4 (by decide) (by decide)
  have a := c_iadd s (1 : Int32)
  have k : (1 : Int32).toInt = 1 := by decide
  have r := rng32 (s + (1 : Int32))
  unfold own_nx
  rw [h]
  omega
theorem own_eE (d : Int32) : ∀ k, (own_e d k).toInt = ((own_h d).toInt + k) % 16
  | 0 => by have := own_hR d; show (own_h d).toInt = _; omega
  | k + 1 => by
    have i := own_eE d k
    show (own_nx (own_e d k)).toInt = _
    rw [own_nxE (by omega) (by omega), i]
    omega
theorem own_eR (d : Int32) (k : Nat) : ¬ own_e d k < 0 ∧ own_e d k < 16 := by
  have h := own_eE d k
  have k0 : (0 : Int32).toInt = 0 := by decide
  have k1 : (16 : Int32).toInt = 16 := by decide
  rw [Int32.lt_iff_toInt_lt, Int32.lt_iff_toInt_lt, k0, k1, h]
  omega
theorem own_eI {d : Int32} {j k : Nat} (hj : j < 16) (hk : k < 16) (h : own_e d j = own_e d k) : j = k := by
  have a := own_eE d j
  have b := own_eE d k
  rw [h] at a
  omega
def own_slot (f g : Int32 → Int32) (d s : Int32) : Prop := ∃ k : Nat, k ≤ 3 ∧ s = own_e d k ∧ (∀ j, j < k → ¬ f (own_e d j) = -1 ∧ ¬ g (f (own_e d j)) = d) ∧ (f s = -1 ∨ g (f s) = d)
theorem own_slot_one {f g : Int32 → Int32} {d s s' : Int32} (h : own_slot f g d s) (h' : own_slot f g d s') : s = s' := by
  obtain ⟨k, -, rfl, p, e⟩ := h
  obtain ⟨k', -, rfl, p', e'⟩ := h'
  rcases Nat.lt_trichotomy k k' with q | q | q
  · exact absurd e (by have := p' k q; exact fun w => w.elim this.1 this.2)
  · rw [q]
  · exact absurd e' (by have := p k' q; exact fun w => w.elim this.1 this.2)
/-- n places are taken -/
def own_inv (f g : Int32 → Int32) (n : Nat) : Prop := n ≤ 3 ∧ (∀ s : Int32, ¬ s < 0 → s < 16 → f s = -1 ∨ (0 ≤ (f s).toInt ∧ (f s).toInt < n)) ∧
  (∀ s s' : Int32, ¬ s < 0 → s < 16 → ¬ s' < 0 → s' < 16 → f s = f s' → ¬ f s = -1 → s = s') ∧ (∀ q : Int32, 0 ≤ q.toInt → q.toInt < n → ∃ s : Int32, f s = q ∧ own_slot f g (g q) s)
theorem own_m1 : (-1 : Int32).toInt = -1 := by decide
/-- of four places in a row one is free -/
theorem own_free {f g : Int32 → Int32} {n : Nat} {d : Int32} (I : own_inv f g n) (h0 : ¬ f (own_e d 0) = -1) (h1 : ¬ f (own_e d 1) = -1) (h2 : ¬ f (own_e d 2) = -1) : f (own_e d 3) = -1 := by
  refine Classical.byContradiction fun h3 => ?_
  obtain ⟨hn, hv, hi, -⟩ := I
  have r := fun k => own_eR d k
  have v0 := (hv _ (r 0).1 (r 0).2).resolve_left h0
  have v1 := (hv _ (r 1).1 (r 1).2).resolve_left h1
  have v2 := (hv _ (r 2).1 (r 2).2).resolve_left h2
  have v3 := (hv _ (r 3).1 (r 3).2).resolve_left h3
  have u : ∀ i j : Nat, i < 16 → j < 16 → i ≠ j → ¬ f (own_e d i) = -1 → (f (own_e d i)).toInt ≠ (f (own_e d j)).toInt := fun i j a b c e q =>
    c (own_eI a b (hi _ _ (r i).1 (r i).2 (r j).1 (r j).2 (Int32.toInt_inj.mp q) e))
  have a1 := u 0 1 (by omega) (by omega) (by omega) h0
  have a2 := u 0 2 (by omega) (by omega) (by omega) h0
  have a3 := u 0 3 (by omega) (by omega) (by omega) h0
  have a4 := u 1 2 (by omega) (by omega) (by omega) h1
  have a5 := u 1 3 (by omega) (by omega) (by omega) h1
  have a6 := u 2 3 (by omega) (by omega) (by omega) h2
  omega
/-- what a document's search finds: nothing where it isn't held -/
theorem own_held {f g : Int32 → Int32} {n : Nat} {d s : Int32} (I : own_inv f g n) (S : own_slot f g d s) (h : f s = -1) : ∀ q : Int32, 0 ≤ q.toInt → q.toInt < n → ¬ g q = d := fun q q0 q1 e => by
  obtain ⟨t, t1, t2⟩ := I.2.2.2 q q0 q1
  rw [e] at t2
  rw [own_slot_one S t2, t1] at h
  rw [h, own_m1] at q0
  omega
/-- a document is added: its place n at the free slot s -/
theorem own_inv_add {f g : Int32 → Int32} {n : Nat} {d s c : Int32} (I : own_inv f g n) (hn : n ≤ 2) (S : own_slot f g d s) (h : f s = -1) (hc : c.toInt = n) : own_inv (own_upd f s c) (own_upd g c d) (n + 1) := by
  obtain ⟨k, k3, rfl, P, -⟩ := id S
  have R := own_eR d k
  have hc1 : ¬ c = -1 := fun q => by rw [q, own_m1] at hc; omega
  have free := own_held I S h
  obtain ⟨-, hv, hi, hh⟩ := I
  have old : ∀ {t : Int32}, ¬ t < 0 → t < 16 → ¬ f t = -1 → ¬ t = own_e d k ∧ ¬ f t = c := fun {t} t0 t1 t2 => ⟨fun q => t2 (q ▸ h), fun q => by
    have := (hv t t0 t1).resolve_left t2
    rw [q] at this; omega⟩
  have keep : ∀ {q t : Int32}, own_slot f g (g q) t → f t = q → ¬ q = -1 → ¬ q = c → own_slot (own_upd f (own_e d k) c) (own_upd g c d) (g q) t := fun {q t} T e q1 q2 => by
    obtain ⟨i, i3, rfl, Pi, -⟩ := T
    refine ⟨i, i3, rfl, fun j hj => ?_, ?_⟩
    · have o := old (own_eR (g q) j).1 (own_eR (g q) j).2 (Pi j hj).1
      rw [own_upd_ne o.1, own_upd_ne o.2]
      exact Pi j hj
    · have o := old (own_eR (g q) i).1 (own_eR (g q) i).2 (by rw [e]; exact q1)
      rw [own_upd_ne o.1, own_upd_ne o.2]
      exact Or.inr (by rw [e])
  refine ⟨by omega, fun t t0 t1 => ?_, fun t u t0 t1 u0 u1 e t2 => ?_, fun q q0 q1 => ?_⟩
  · by_cases w : t = own_e d k
    · rw [w, own_upd_same]; right; omega
    · rw [own_upd_ne w]
      rcases hv t t0 t1 with x | x
      · exact Or.inl x
      · right; omega
  · by_cases w : t = own_e d k
    · by_cases w' : u = own_e d k
      · rw [w, w']
      · rw [w, own_upd_same, own_upd_ne w'] at e
        have := (hv u u0 u1).resolve_left (by rw [← e]; exact hc1)
        rw [← e] at this; omega
    · rw [own_upd_ne w] at e t2
      by_cases w' : u = own_e d k
      · rw [w', own_upd_same] at e
        have := (hv t t0 t1).resolve_left t2
        rw [e] at this; omega
      · rw [own_upd_ne w'] at e
        exact hi t u t0 t1 u0 u1 e t2
  · by_cases w : q = c
    · refine ⟨own_e d k, by rw [own_upd_same, w], ?_⟩
      rw [w, own_upd_same]
      refine ⟨k, k3, rfl, fun j hj => ?_, Or.inr (by rw [own_upd_same, own_upd_same])⟩
      have o := old (own_eR d j).1 (own_eR d j).2 (P j hj).1
      rw [own_upd_ne o.1, own_upd_ne o.2]
      exact P j hj
    · have w2 : q.toInt ≠ c.toInt := fun x => w (Int32.toInt_inj.mp x)
      obtain ⟨t, e, T⟩ := hh q q0 (by omega)
      have q1' : ¬ q = -1 := fun x => by rw [x, own_m1] at q0; omega
      rw [own_upd_ne w]
      obtain ⟨i, i3, rfl, Pi, x⟩ := id T
      refine ⟨own_e (g q) i, ?_, keep T e q1' w⟩
      have o := old (own_eR (g q) i).1 (own_eR (g q) i).2 (by rw [e]; exact q1')
      rw [own_upd_ne o.1, e]
/-- what `get` answers: M -/
def own_rep (f g : Int32 → Int32) (F : Int32 → UInt64) (n : Nat) (M : Int32 → Int64) : Prop := own_inv f g n ∧ ∀ q s : Int32, own_slot f g q s → (f s = -1 → M q = 0) ∧ (¬ f s = -1 → F (f s) = FP.l2d (M q))
theorem own_rep_add {f g : Int32 → Int32} {F : Int32 → UInt64} {n : Nat} {M : Int32 → Int64} {d s c : Int32} {x : Int64} (R : own_rep f g F n M) (hn : n ≤ 2) (S : own_slot f g d s) (h : f s = -1) (hc : c.toInt = n) :
    own_rep (own_upd f s c) (own_upd g c d) (own_upd F c (FP.l2d x)) (n + 1) (own_upd M d x) := by
  have I := own_inv_add R.1 hn S h hc
  have hc1 : ¬ c = -1 := fun q => by rw [q, own_m1] at hc; omega
  refine ⟨I, fun q t T => ?_⟩
  obtain ⟨k, k3, rfl, P, -⟩ := id S
  have hv := R.1.2.1
  by_cases w : q = d
  · -- the new document
    have T' : own_slot (own_upd f (own_e d k) c) (own_upd g c d) q (own_e d k) := by
      rw [w]
      obtain ⟨t0, e0, T0⟩ := I.2.2.2 c (by omega) (by omega)
      rw [own_upd_same] at T0
      have : t0 = own_e d k := Classical.byContradiction fun z => by
        rw [own_upd_ne z] at e0
        obtain ⟨i, -, rfl, -, -⟩ := id T0
        have := (hv _ (own_eR d i).1 (own_eR d i).2).resolve_left (by rw [e0]; exact hc1)
        rw [e0] at this; omega
      rw [this] at T0; exact T0
    rw [own_slot_one T T', own_upd_same, own_upd_same, w, own_upd_same]
    exact ⟨fun z => absurd z hc1, fun _ => rfl⟩
  · rw [own_upd_ne w]
    by_cases z : own_upd f (own_e d k) c t = -1
    · refine ⟨fun _ => ?_, fun y => absurd z y⟩
      -- not found now: not found then
      obtain ⟨i, i3, rfl, Pi, -⟩ := id T
      have t1 : ¬ own_e q i = own_e d k := fun y => by rw [y, own_upd_same] at z; exact hc1 z
      rw [own_upd_ne t1] at z
      have free := own_held I T (by rw [own_upd_ne t1]; exact z)
      -- its search of before
      have : ∃ s0, own_slot f g q s0 ∧ f s0 = -1 := by
        by_cases y : ∃ j, j < i ∧ own_e q j = own_e d k
        · obtain ⟨j, j1, j2⟩ := y
          refine ⟨own_e q j, ⟨j, by omega, rfl, fun u hu => ?_, Or.inl (by rw [j2]; exact h)⟩, by rw [j2]; exact h⟩
          have pu := Pi u (by omega)
          have u1 : ¬ own_e q u = own_e d k := fun v => by
            rw [← j2] at v
            have := own_eI (by omega) (by omega) v
            omega
          rw [own_upd_ne u1] at pu
          have u2 : ¬ f (own_e q u) = c := fun v => by
            have := (hv _ (own_eR q u).1 (own_eR q u).2).resolve_left pu.1
            rw [v] at this; omega
          rw [own_upd_ne u2] at pu
          exact pu
        · refine ⟨own_e q i, ⟨i, i3, rfl, fun u hu => ?_, Or.inl z⟩, z⟩
          have pu := Pi u hu
          have u1 : ¬ own_e q u = own_e d k := fun v => y ⟨u, hu, v⟩
          rw [own_upd_ne u1] at pu
          have u2 : ¬ f (own_e q u) = c := fun v => by
            have := (hv _ (own_eR q u).1 (own_eR q u).2).resolve_left pu.1
            rw [v] at this; omega
          rw [own_upd_ne u2] at pu
          exact pu
      obtain ⟨s0, S0, z0⟩ := this
      exact (R.2 q s0 S0).1 z0
    · refine ⟨fun y => absurd y z, fun _ => ?_⟩
      obtain ⟨i, i3, rfl, Pi, E⟩ := id T
      have E := E.resolve_left z
      have t1 : ¬ own_e q i = own_e d k := fun y => by rw [y, own_upd_same, own_upd_same] at E; exact w E.symm
      rw [own_upd_ne t1] at z E ⊢
      have t2 : ¬ f (own_e q i) = c := fun v => by
        have := (hv _ (own_eR q i).1 (own_eR q i).2).resolve_left z
        rw [v] at this; omega
      rw [own_upd_ne t2] at E ⊢
      have V := (hv _ (own_eR q i).1 (own_eR q i).2).resolve_left z
      obtain ⟨s0, e0, S0⟩ := R.1.2.2.2 (f (own_e q i)) V.1 V.2
      rw [E] at S0
      have := (R.2 q s0 S0).2 (by rw [e0]; exact z)
      rw [e0] at this
      exact this
theorem own_rep_more {f g : Int32 → Int32} {F : Int32 → UInt64} {n : Nat} {M : Int32 → Int64} {d s : Int32} {x : Int64} (R : own_rep f g F n M) (S : own_slot f g d s) (h : ¬ f s = -1) : own_rep f g (own_upd F (f s) (FP.l2d x)) n (own_upd M d x) := by
  have gd : g (f s) = d := by obtain ⟨k, -, rfl, -, e⟩ := S; exact e.resolve_left h
  refine ⟨R.1, fun q t T => ?_⟩
  by_cases w : q = d
  · rw [w] at T
    rw [own_slot_one T S, own_upd_same, w, own_upd_same]
    exact ⟨fun z => absurd z h, fun _ => rfl⟩
  · rw [own_upd_ne w]
    refine ⟨(R.2 q t T).1, fun z => ?_⟩
    have gq : g (f t) = q := by obtain ⟨k, -, rfl, -, e⟩ := T; exact e.resolve_left z
    rw [own_upd_ne (fun y => w (by rw [← gq, y, gd]))]
    exact (R.2 q t T).2 z
theorem own_rep_zero {g : Int32 → Int32} {F : Int32 → UInt64} : own_rep (fun _ => -1) g F 0 (fun _ => 0) :=
  ⟨⟨by omega, fun _ _ _ => Or.inl rfl, fun _ _ _ _ _ _ _ q => absurd rfl q, fun q a b => by omega⟩, fun _ _ _ => ⟨fun _ => rfl, fun q => absurd rfl q⟩⟩

theorem own_place {f g : Int32 → Int32} {n : Nat} {s : Int32} (I : own_inv f g n) (r : ¬ s < 0 ∧ s < 16) (h : ¬ f s = (-1 : Int32)) : ¬ f s < 0 ∧ f s < 8 := by
  have a := (I.2.1 s r.1 r.2).resolve_left h
  have b := I.1
  have k0 : (0 : Int32).toInt = 0 := by decide
  have k1 : (8 : Int32).toInt = 8 := by decide
  rw [Int32.lt_iff_toInt_lt, Int32.lt_iff_toInt_lt, k0, k1]
  omega
theorem own_slotR {f g : Int32 → Int32} {d s : Int32} (S : own_slot f g d s) : ¬ s < 0 ∧ s < 16 := by
  obtain ⟨k, -, rfl, -, -⟩ := S; exact own_eR d k
theorem own_cntR {c : Int32} {n : Nat} (h : c.toInt = n) (hn : n ≤ 2) : ¬ c < 0 ∧ c < 8 ∧ ¬ (16 : Int32) < ((2 : Int32) * (c + (1 : Int32))) ∧ (c + (1 : Int32)).toInt = ((n + 1 : Nat) : Int) := by
  have k0 : (0 : Int32).toInt = 0 := by decide
  have k1 : (8 : Int32).toInt = 8 := by decide
  have k2 : (1 : Int32).toInt = 1 := by decide
  have k3 : (2 : Int32).toInt = 2 := by decide
  have k4 : (16 : Int32).toInt = 16 := by decide
  have a := c_iadd c (1 : Int32)
  have r := rng32 (c + (1 : Int32))
  have b := c_imul (2 : Int32) (c + (1 : Int32))
  have r2 := rng32 ((2 : Int32) * (c + (1 : Int32)))
  have e : (c + (1 : Int32)).toInt = ((n + 1 : Nat) : Int) := by omega
  rw [k3, e] at b
  refine ⟨?_, ?_, ?_, e⟩ <;> rw [Int32.lt_iff_toInt_lt] <;> omega
theorem own_upd_upd {α : Type} (f : Int32 → α) (j : Int32) (u w : α) : own_upd (own_upd f j u) j w = own_upd f j w := by
  funext k
  by_cases e : k = j
  · rw [e, own_upd_same, own_upd_same]
  · rw [own_upd_ne e, own_upd_ne e, own_upd_ne e]
def own_plus (M : Int32 → Int64) (d : Int32) (x : Int64) : Int32 → Int64 := own_upd M d (M d + x)
theorem own_plus_eq {M : Int32 → Int64} {d q : Int32} {x : Int64} (h : d = q) : own_plus M d x q = M q + x := by subst h; exact own_upd_same _ _ _
theorem own_plus_ne {M : Int32 → Int64} {d q : Int32} {x : Int64} (h : ¬ d = q) : own_plus M d x q = M q := own_upd_ne fun e => h e.symm
theorem own_rep_new {f g : Int32 → Int32} {F : Int32 → UInt64} {n : Nat} {M : Int32 → Int64} {d s c : Int32} {x : Int64} (R : own_rep f g F n M) (hn : n ≤ 2) (S : own_slot f g d s) (h : f s = (-1 : Int32)) (hc : c.toInt = n) :
    own_rep (own_upd f s c) (own_upd g c d) (own_upd (own_upd F c (FP.l2d 0)) c (FP.l2d (0 + x))) (n + 1) (own_plus M d x) := by
  rw [own_upd_upd]
  have := own_rep_add (x := M d + x) R hn S h hc
  have e := (R.2 d s S).1 h
  unfold own_plus
  rw [e] at this ⊢
  exact this
def own_lt (x : Int64) (K : Int) : Prop := -K ≤ x.toInt ∧ x.toInt ≤ K
theorem own_lt0 : own_lt 0 0 := by unfold own_lt; decide
theorem own_lt_add {a b : Int64} {A B : Int} (ha : own_lt a A) (hb : own_lt b B) (h : A + B < 9007199254740992) : own_lt (a + b) (A + B) := by
  unfold own_lt at *
  have c := c_ladd a b
  have r := rng64 (a + b)
  omega
theorem own_lt53 {a : Int64} {A : Int} (h : own_lt a A) (hA : A < 9007199254740992) : B53 a := by unfold own_lt at h; exact ⟨by omega, by omega⟩
theorem own_bd0 : ∀ q : Int32, own_lt ((fun _ => 0 : Int32 → Int64) q) 0 := fun _ => own_lt0
theorem own_bd_plus {M : Int32 → Int64} {d : Int32} {x : Int64} {A B : Int} (hM : ∀ q, own_lt (M q) A) (hx : own_lt x B) (hB : 0 ≤ B) (h : A + B < 9007199254740992) : ∀ q, own_lt (own_plus M d x q) (A + B) := fun q => by
  by_cases e : d = q
  · rw [own_plus_eq e]; exact own_lt_add (hM q) hx h
  · rw [own_plus_ne e]
    have := hM q
    unfold own_lt at *
    omega
def own_max (p q : Int32) : Int32 := if p < q then q else p

theorem own_dup2 {tb : Tables} [Ours tb] {e : Env} {below : List Frame} {T target : State} {m : MethodId} {c : Code} {g : JFrame} (h : At T m c below) (hx : tb.exec = Jvm.exec) (hg : g.method = m) {x y : Value} {rest : List Value} (hd : decode c.code g.pc = .ok (.dup2, 1)) (hs : g.stack = x :: y :: rest) (h1 : x.category = 1) (h2 : y.category = 1)
    (hr : Steps tb e below (T.setTop { g with pc := g.pc + 1, stack := x :: y :: x :: y :: rest }) target) : Steps tb e below (T.setTop g) target := by
  subst hg
  jvm_step h [h.top, hx, hd, hs, h1, h2]
  exact hr

def own_u (f u : Int32 → Int32) (n : Nat) : Prop := ∀ q : Int32, 0 ≤ q.toInt → q.toInt < n → f (u q) = q ∧ ¬ u q < 0 ∧ u q < 16
theorem own_u_add {f g u : Int32 → Int32} {n : Nat} {d s c : Int32} (I : own_inv f g n) (hU : own_u f u n) (h : f s = (-1 : Int32)) (hc : c.toInt = n) (hs : ¬ s < 0 ∧ s < 16) : own_u (own_upd f s c) (own_upd u c s) (n + 1) := fun q q0 q1 => by
  by_cases e : q = c
  · rw [e, own_upd_same, own_upd_same]; exact ⟨rfl, hs⟩
  · rw [own_upd_ne e]
    have a := hU q q0 (by have : q.toInt ≠ c.toInt := fun x => e (Int32.toInt_inj.mp x); omega)
    rw [own_upd_ne (fun y => by rw [y, h] at a; rw [← a.1, own_m1] at q0; omega)]
    exact a
theorem own_g_new {g : Int32 → Int32} {n : Nat} {d c : Int32} (hc : c.toInt = n) : ∃ q : Int32, 0 ≤ q.toInt ∧ q.toInt < ((n + 1 : Nat) : Int) ∧ own_upd g c d q = d := ⟨c, by omega, by omega, own_upd_same _ _ _⟩
theorem own_g_old {f g : Int32 → Int32} {n : Nat} {d s : Int32} (I : own_inv f g n) (S : own_slot f g d s) (h : ¬ f s = (-1 : Int32)) : ∃ q : Int32, 0 ≤ q.toInt ∧ q.toInt < n ∧ g q = d := by
  obtain ⟨k, -, rfl, -, e⟩ := S
  have a := (I.2.1 _ (own_eR d k).1 (own_eR d k).2).resolve_left h
  exact ⟨_, a.1, a.2, e.resolve_left h⟩
theorem own_uR {f u : Int32 → Int32} {n : Nat} {c j : Int32} (hU : own_u f u n) (hc : c.toInt = n) (h0 : 0 ≤ j.toInt) (h : j < c) : f (u j) = j ∧ ¬ u j < 0 ∧ u j < 16 := hU j h0 (by rw [Int32.lt_iff_toInt_lt] at h; omega)
def own_wipe (f u : Int32 → Int32) : Nat → Int32 → Int32
  | 0 => f
  | k + 1 => own_upd (own_wipe f u k) (u (Int32.ofNat k)) (-1)
theorem own_wipe_or (f u : Int32 → Int32) (s : Int32) : ∀ k, own_wipe f u k s = -1 ∨ (own_wipe f u k s = f s ∧ ∀ j, j < k → ¬ s = u (Int32.ofNat j))
  | 0 => Or.inr ⟨rfl, fun j hj => absurd hj (Nat.not_lt_zero j)⟩
  | k + 1 => by
    by_cases e : s = u (Int32.ofNat k)
    · left; show own_upd _ _ _ s = -1; rw [e, own_upd_same]
    · have i := own_wipe_or f u s k
      have r : own_wipe f u (k + 1) s = own_wipe f u k s := own_upd_ne e
      rw [r]
      refine i.imp id fun ⟨a, b⟩ => ⟨a, fun j hj => ?_⟩
      by_cases w : j = k
      · rw [w]; exact e
      · exact b j (by omega)
theorem own_wipe_all {f g u : Int32 → Int32} {n k : Nat} (I : own_inv f g n) (hU : own_u f u n) (hk : n ≤ k) (s : Int32) (h0 : ¬ s < 0) (h1 : s < 16) : own_wipe f u k s = -1 := by
  rcases own_wipe_or f u s k with q | ⟨q, r⟩
  · exact q
  · rw [q]
    refine Classical.byContradiction fun w => ?_
    have a := (I.2.1 s h0 h1).resolve_left w
    have b := hU (f s) a.1 a.2
    have e : s = u (f s) := I.2.2.1 s (u (f s)) h0 h1 b.2.1 b.2.2 b.1.symm w
    have hn := I.1
    refine r (f s).toInt.toNat (by omega) ?_
    have : Int32.ofNat (f s).toInt.toNat = f s := by
      apply Int32.toInt_inj.mp
      rw [Int32.toInt_ofNat_of_lt (by omega)]
      omega
    rw [this]; exact e
theorem OwnI.congr {Z : State} {h : Heap} {a : Addr} {z : Int32} {f f' : Int32 → Int32} (V : OwnI Z h a z f) (q : ∀ j : Int32, ¬ j < 0 → j < z → f j = f' j) : OwnI Z h a z f' := by
  obtain ⟨c, A, S, N, H⟩ := V
  exact ⟨c, A, S, N, fun j j0 j1 => by rw [← q j j0 j1]; exact H j j0 j1⟩
theorem own_list8 (f : Int32 → Int32) (d : Value) : ∀ k, k < 8 → [Value.int (f 0), .int (f 1), .int (f 2), .int (f 3), .int (f 4), .int (f 5), .int (f 6), .int (f 7)].getD k d = .int (f (Int32.ofNat k)) := fun k hk => by
  match k, hk with
  | 0, _ => rfl
  | 1, _ => rfl
  | 2, _ => rfl
  | 3, _ => rfl
  | 4, _ => rfl
  | 5, _ => rfl
  | 6, _ => rfl
  | 7, _ => rfl
  | k + 8, hk => exact absurd hk (by omega)
theorem OwnI.arv {Z : State} {h : Heap} {a : Addr} {f : Int32 → Int32} (V : OwnI Z h a (8 : Int32) f) : ∃ k : ClassId, Arv Z h a k .int (8 : Int32) [(.int (f (0 : Int32))), (.int (f (1 : Int32))), (.int (f (2 : Int32))), (.int (f (3 : Int32))), (.int (f (4 : Int32))), (.int (f (5 : Int32))), (.int (f (6 : Int32))), (.int (f (7 : Int32)))] (.int (0 : Int32)) := by
  obtain ⟨c, A, S, N, H⟩ := V
  have s8 : c.slots.size = 8 := S
  refine ⟨c.cls, c, A, rfl, S, N, fun k hk => ?_, fun k hk => ?_⟩
  · rw [own_list8 f _ k (by omega)]
    have e : (Int32.ofNat k).toInt = k := Int32.toInt_ofNat_of_lt (by omega)
    have k0 : (0 : Int32).toInt = 0 := by decide
    have k8 : (8 : Int32).toInt = 8 := by decide
    have p0 : ¬ Int32.ofNat k < 0 := by rw [Int32.lt_iff_toInt_lt]; omega
    have q := H (Int32.ofNat k) p0 (by rw [Int32.lt_iff_toInt_lt]; omega)
    have e2 := nat_of p0
    rw [show (Int32.ofNat k).toNatClampNeg = k by omega] at q
    exact q
  · rw [own_list8 f _ k (by omega)]; rfl
def own_min (p q : Int32) : Int32 := if q < p then q else p
theorem own_three {c : Int32} {n : Nat} (h : c.toInt = n) (hn : n ≤ 3) : ¬ (3 : Int32) < c := by
  have k : (3 : Int32).toInt = 3 := by decide
  rw [Int32.lt_iff_toInt_lt]; omega
theorem own_nk {c : Int32} {n : Nat} (h : c.toInt = n) {k : Int32} (q : ¬ k < c) : (n : Int) ≤ k.toInt := by rw [Int32.lt_iff_toInt_lt] at q; omega
theorem own_one {g : Int32 → Int32} {n : Nat} {d c : Int32} (hn : n ≤ 1) (hc : c.toInt = n) (G : ∃ q : Int32, 0 ≤ q.toInt ∧ q.toInt < n ∧ g q = d) : c = (1 : Int32) ∧ g (0 : Int32) = d := by
  obtain ⟨q, q0, q1, e⟩ := G
  have z : q = 0 := Int32.toInt_inj.mp (by rw [show (0 : Int32).toInt = 0 by decide]; omega)
  refine ⟨Int32.toInt_inj.mp (by rw [show (1 : Int32).toInt = 1 by decide]; omega), by rw [← z]; exact e⟩
theorem d1_0 : decode jdk_29_method_65_code 0 = .ok (.iload_n 0, 1) := by decide +kernel
theorem d1_1 : decode jdk_29_method_65_code 1 = .ok (.iload_n 1, 1) := by decide +kernel
theorem d1_2 : decode jdk_29_method_65_code 2 = .ok (.if_icmp .lt 7, 3) := by decide +kernel
theorem d1_9 : decode jdk_29_method_65_code 9 = .ok (.iload_n 1, 1) := by decide +kernel
theorem d1_10 : decode jdk_29_method_65_code 10 = .ok (.ireturn, 1) := by decide +kernel
theorem d1_5 : decode jdk_29_method_65_code 5 = .ok (.iload_n 0, 1) := by decide +kernel
theorem d1_6 : decode jdk_29_method_65_code 6 = .ok (.goto 4, 3) := by decide +kernel
def Q_rmmax (Z : State) (p1 : Int32) (p2 : Int32) (h0 : Heap) (n0 : Nat) (v : Option Value) (h : Heap) (L : List Loc) : Prop := v = some (.int (own_max p1 p2)) ∧ Fr n0 L ∧ h = h0
theorem ef_rmmax (m : MethodId) (p1 : Int32) (p2 : Int32) : entryFrame m #[(.int p1), (.int p2)] 2 = mkF m 0 #[.val (.int p1), .val (.int p2)] [] := by first | (simp [entryFrame, mkF, argsToLocals, Value.category]; done) | rfl
set_option maxRecDepth 65536 in
set_option maxHeartbeats 40000000 in
theorem rmmax (l : Launch) (Z : State) (a0 : Array Value) (hw : ∀ d ∈ tables_1, d.before a0 Z = true) (ws : List Jvm.Cond) (p1 : Int32) (p2 : Int32) (h0 : Heap) (n0 : Nat) (Z0 : n0 ≤ h0.size) :
    MetFree l (⟨"java/lang/Math", "max", "(II)I"⟩ : MethodName) (head1 (Jvm.Cond.code (⟨"java/lang/Math", "max", "(II)I"⟩ : MethodName) jdk_29_method_65_code 2 (some .int) :: ws) ({ frames := 0, cells := 0, slots := 0, locals := 0 } : Room)) (fun a U => a = #[(.int p1), (.int p2)] ∧ Z.Warmed39 U.vm ∧ U.heap = h0) (fun _ _ _ _ _ => True) (fun _ U o U' => ∃ v L, o = .returned v ∧ Q_rmmax Z p1 p2 h0 n0 v U'.heap L ∧ FrameEnd U o U' L ({ frames := 0, cells := 0, slots := 0, locals := 0 } : Room).cells ({ frames := 0, cells := 0, slots := 0, locals := 0 } : Room).slots) := by
  refine MetFree.of_bodySF (Jvm.Free.JP.mathPlain rfl (by decide +kernel)) hisR ?_
  intro p e s m args below meth c s₁ Bd hml0 hP hK
  obtain ⟨rfl, hZ, hh⟩ := hP
  have hx := Bd.exec
  have hby := Bd.bytes
  have hml : c.maxLocals = 2 := hml0
  have hown : s.vm.findClass "java/lang/Math" = some m.cls := findClass_of_methodNamed Bd.named
  have hnm := (name_of_methodNamed Bd.named Bd.method).1
  have X0 : Stand p l e ({ frames := 0, cells := 0, slots := 0, locals := 0 } : Room) s m #[(.int p1), (.int p2)] below meth c s₁ [] 0 0 := Stand.of_body Bd
  have e0 : s₁.heap = h0 := by rw [← hh, Bd.state]; rfl
  have N0 := Fr.nil n0
  show Goes p e below s (Q_rmmax Z p1 p2 h0 n0) ({ frames := 0, cells := 0, slots := 0, locals := 0 } : Room).cells ({ frames := 0, cells := 0, slots := 0, locals := 0 } : Room).slots (s₁.setTop (entryFrame m #[(.int p1), (.int p2)] 2))
  refine Goes.pre (fun t kt => castTop (ef_rmmax m p1 p2) kt) ?_
  show Goes p e below s _ _ _ (s₁.setTop (mkF m 0 #[.val (.int p1), .val (.int p2)] []))
  refine Goes.pre (fun t kt => XS.iloadN X0.here hx rfl (hb hby d1_0) rfl kt) ?_
  show Goes p e below s _ _ _ (s₁.setTop (mkF m 1 #[.val (.int p1), .val (.int p2)] [(.int p1)]))
  refine Goes.pre (fun t kt => XS.iloadN X0.here hx rfl (hb hby d1_1) rfl kt) ?_
  show Goes p e below s _ _ _ (s₁.setTop (mkF m 2 #[.val (.int p1), .val (.int p2)] [(.int p2), (.int p1)]))
  by_cases hc2 : p1 < p2
  · refine Goes.pre (fun t kt => XS.icmpYes X0.here hx rfl (pc0 := 2) (pc' := 9) rfl (hb hby d1_2) rfl (Jvm.Free.XT.ii_lt_t (hc2)) (by decide) (by decide) kt) ?_
    show Goes p e below s _ _ _ (s₁.setTop (mkF m 9 #[.val (.int p1), .val (.int p2)] []))
    refine Goes.pre (fun t kt => XS.iloadN X0.here hx rfl (hb hby d1_9) rfl kt) ?_
    show Goes p e below s _ _ _ (s₁.setTop (mkF m 10 #[.val (.int p1), .val (.int p2)] [(.int p2)]))
    refine Goes.ret X0 (some (.int p2)) (fun h => by rw [Bd.returns] at h; cases h) (BodyLoose.notSynchronized Bd) (by decide) (by decide) (fun fs hr => retOut X0 hx (t := .int) Bd.returns rfl (Or.inl ⟨rfl, Or.inl rfl, _, rfl⟩) (hb hby d1_10) hr) ?_
    show Q_rmmax Z p1 p2 h0 n0 _ s₁.heap _
    rw [e0]
    exact ⟨(by unfold own_max; rw [if_pos hc2]), N0, rfl⟩
  · refine Goes.pre (fun t kt => XS.icmpNo X0.here hx rfl (hb hby d1_2) rfl (Jvm.Free.XT.ii_lt_f (hc2)) kt) ?_
    show Goes p e below s _ _ _ (s₁.setTop (mkF m 5 #[.val (.int p1), .val (.int p2)] []))
    refine Goes.pre (fun t kt => XS.iloadN X0.here hx rfl (hb hby d1_5) rfl kt) ?_
    show Goes p e below s _ _ _ (s₁.setTop (mkF m 6 #[.val (.int p1), .val (.int p2)] [(.int p1)]))
    refine Goes.pre (fun t kt => XS.goto X0.here hx rfl (pc0 := 6) (pc' := 10) rfl (hb hby d1_6) (by decide) (by decide) kt) ?_
    show Goes p e below s _ _ _ (s₁.setTop (mkF m 10 #[.val (.int p1), .val (.int p2)] [(.int p1)]))
    refine Goes.ret X0 (some (.int p1)) (fun h => by rw [Bd.returns] at h; cases h) (BodyLoose.notSynchronized Bd) (by decide) (by decide) (fun fs hr => retOut X0 hx (t := .int) Bd.returns rfl (Or.inl ⟨rfl, Or.inl rfl, _, rfl⟩) (hb hby d1_10) hr) ?_
    show Q_rmmax Z p1 p2 h0 n0 _ s₁.heap _
    rw [e0]
    exact ⟨(by unfold own_max; rw [if_neg hc2]), N0, rfl⟩
theorem d4_0 : decode jdk_33_method_48_code 0 = .ok (.iload_n 0, 1) := by decide +kernel
theorem d4_1 : decode jdk_33_method_48_code 1 = .ok (.iconst (-1), 1) := by decide +kernel
theorem d4_2 : decode jdk_33_method_48_code 2 = .ok (.ixor, 1) := by decide +kernel
theorem d4_3 : decode jdk_33_method_48_code 3 = .ok (.iload_n 0, 1) := by decide +kernel
theorem d4_4 : decode jdk_33_method_48_code 4 = .ok (.iconst 1, 1) := by decide +kernel
theorem d4_5 : decode jdk_33_method_48_code 5 = .ok (.isub, 1) := by decide +kernel
theorem d4_6 : decode jdk_33_method_48_code 6 = .ok (.iand, 1) := by decide +kernel
theorem d4_7 : decode jdk_33_method_48_code 7 = .ok (.istore_n 0, 1) := by decide +kernel
theorem d4_8 : decode jdk_33_method_48_code 8 = .ok (.iload_n 0, 1) := by decide +kernel
theorem d4_9 : decode jdk_33_method_48_code 9 = .ok (.ifCond .gt 8, 3) := by decide +kernel
theorem d4_17 : decode jdk_33_method_48_code 17 = .ok (.iconst 1, 1) := by decide +kernel
theorem d4_18 : decode jdk_33_method_48_code 18 = .ok (.istore_n 1, 1) := by decide +kernel
theorem d4_19 : decode jdk_33_method_48_code 19 = .ok (.iload_n 0, 1) := by decide +kernel
theorem d4_20 : decode jdk_33_method_48_code 20 = .ok (.ldc_w 264, 3) := by decide +kernel
theorem d4_23 : decode jdk_33_method_48_code 23 = .ok (.if_icmp .le 11, 3) := by decide +kernel
theorem d4_34 : decode jdk_33_method_48_code 34 = .ok (.iload_n 0, 1) := by decide +kernel
theorem d4_35 : decode jdk_33_method_48_code 35 = .ok (.sipush 256, 3) := by decide +kernel
theorem d4_38 : decode jdk_33_method_48_code 38 = .ok (.if_icmp .le 11, 3) := by decide +kernel
theorem d4_49 : decode jdk_33_method_48_code 49 = .ok (.iload_n 0, 1) := by decide +kernel
theorem d4_50 : decode jdk_33_method_48_code 50 = .ok (.bipush 16, 2) := by decide +kernel
theorem d4_52 : decode jdk_33_method_48_code 52 = .ok (.if_icmp .le 10, 3) := by decide +kernel
theorem d4_62 : decode jdk_33_method_48_code 62 = .ok (.iload_n 0, 1) := by decide +kernel
theorem d4_63 : decode jdk_33_method_48_code 63 = .ok (.iconst 4, 1) := by decide +kernel
theorem d4_64 : decode jdk_33_method_48_code 64 = .ok (.if_icmp .le 10, 3) := by decide +kernel
theorem d4_67 : decode jdk_33_method_48_code 67 = .ok (.iinc 1 2, 3) := by decide +kernel
theorem d4_70 : decode jdk_33_method_48_code 70 = .ok (.iload_n 0, 1) := by decide +kernel
theorem d4_71 : decode jdk_33_method_48_code 71 = .ok (.iconst 2, 1) := by decide +kernel
theorem d4_72 : decode jdk_33_method_48_code 72 = .ok (.iushr, 1) := by decide +kernel
theorem d4_73 : decode jdk_33_method_48_code 73 = .ok (.istore_n 0, 1) := by decide +kernel
theorem d4_74 : decode jdk_33_method_48_code 74 = .ok (.iload_n 1, 1) := by decide +kernel
theorem d4_75 : decode jdk_33_method_48_code 75 = .ok (.iload_n 0, 1) := by decide +kernel
theorem d4_76 : decode jdk_33_method_48_code 76 = .ok (.iconst 1, 1) := by decide +kernel
theorem d4_77 : decode jdk_33_method_48_code 77 = .ok (.iushr, 1) := by decide +kernel
theorem d4_78 : decode jdk_33_method_48_code 78 = .ok (.iadd, 1) := by decide +kernel
theorem d4_79 : decode jdk_33_method_48_code 79 = .ok (.ireturn, 1) := by decide +kernel
theorem pn_0 : plainName "java/lang/Integer" = true := by first | (simp [plainName, overriddenIn]; done) | decide +kernel
def Q_rmntz (Z : State)  (h0 : Heap) (n0 : Nat) (v : Option Value) (h : Heap) (L : List Loc) : Prop := v = some (.int (4 : Int32)) ∧ Fr n0 L ∧ h = h0
theorem ef_rmntz (m : MethodId)  : entryFrame m #[(.int (16 : Int32))] 2 = mkF m 0 #[.val (.int (16 : Int32)), .unset] [] := by first | (simp [entryFrame, mkF, argsToLocals, Value.category]; done) | rfl
set_option maxRecDepth 65536 in
set_option maxHeartbeats 40000000 in
theorem rmntz (l : Launch) (Z : State) (a0 : Array Value) (hw : ∀ d ∈ tables_1, d.before a0 Z = true) (ws : List Jvm.Cond)  (h0 : Heap) (n0 : Nat) (Z0 : n0 ≤ h0.size) :
    MetFree l (⟨"java/lang/Integer", "numberOfTrailingZeros", "(I)I"⟩ : MethodName) (head1 (Jvm.Cond.code (⟨"java/lang/Integer", "numberOfTrailingZeros", "(I)I"⟩ : MethodName) jdk_33_method_48_code 2 (some .int) :: ws) ({ frames := 0, cells := 0, slots := 0, locals := 0 } : Room)) (fun a U => a = #[(.int (16 : Int32))] ∧ Z.Warmed39 U.vm ∧ U.heap = h0) (fun _ _ _ _ _ => True) (fun _ U o U' => ∃ v L, o = .returned v ∧ Q_rmntz Z  h0 n0 v U'.heap L ∧ FrameEnd U o U' L ({ frames := 0, cells := 0, slots := 0, locals := 0 } : Room).cells ({ frames := 0, cells := 0, slots := 0, locals := 0 } : Room).slots) := by
  refine MetFree.of_bodySF (plainFor_of_name pn_0) hisR ?_
  intro p e s m args below meth c s₁ Bd hml0 hP hK
  obtain ⟨rfl, hZ, hh⟩ := hP
  have hx := Bd.exec
  have hby := Bd.bytes
  have hml : c.maxLocals = 2 := hml0
  have hown : s.vm.findClass "java/lang/Integer" = some m.cls := findClass_of_methodNamed Bd.named
  have hnm := (name_of_methodNamed Bd.named Bd.method).1
  have X0 : Stand p l e ({ frames := 0, cells := 0, slots := 0, locals := 0 } : Room) s m #[(.int (16 : Int32))] below meth c s₁ [] 0 0 := Stand.of_body Bd
  have e0 : s₁.heap = h0 := by rw [← hh, Bd.state]; rfl
  have N0 := Fr.nil n0
  show Goes p e below s (Q_rmntz Z  h0 n0) ({ frames := 0, cells := 0, slots := 0, locals := 0 } : Room).cells ({ frames := 0, cells := 0, slots := 0, locals := 0 } : Room).slots (s₁.setTop (entryFrame m #[(.int (16 : Int32))] 2))
  refine Goes.pre (fun t kt => castTop (ef_rmntz m ) kt) ?_
  show Goes p e below s _ _ _ (s₁.setTop (mkF m 0 #[.val (.int (16 : Int32)), .unset] []))
  refine Goes.pre (fun t kt => XS.iloadN X0.here hx rfl (hb hby d4_0) rfl kt) ?_
  show Goes p e below s _ _ _ (s₁.setTop (mkF m 1 #[.val (.int (16 : Int32)), .unset] [(.int (16 : Int32))]))
  refine Goes.pre (fun t kt => XS.iconst X0.here hx rfl (hb hby d4_1) kt) ?_
  show Goes p e below s _ _ _ (s₁.setTop (mkF m 2 #[.val (.int (16 : Int32)), .unset] [(.int (-1 : Int32)), (.int (16 : Int32))]))
  refine Goes.pre (fun t kt => XS.ixor X0.here hx rfl (hb hby d4_2) rfl kt) ?_
  show Goes p e below s _ _ _ (s₁.setTop (mkF m 3 #[.val (.int (16 : Int32)), .unset] [(.int (-17 : Int32))]))
  refine Goes.pre (fun t kt => XS.iloadN X0.here hx rfl (hb hby d4_3) rfl kt) ?_
  show Goes p e below s _ _ _ (s₁.setTop (mkF m 4 #[.val (.int (16 : Int32)), .unset] [(.int (16 : Int32)), (.int (-17 : Int32))]))
  refine Goes.pre (fun t kt => XS.iconst X0.here hx rfl (hb hby d4_4) kt) ?_
  show Goes p e below s _ _ _ (s₁.setTop (mkF m 5 #[.val (.int (16 : Int32)), .unset] [(.int (1 : Int32)), (.int (16 : Int32)), (.int (-17 : Int32))]))
  refine Goes.pre (fun t kt => XS.isub X0.here hx rfl (hb hby d4_5) rfl kt) ?_
  show Goes p e below s _ _ _ (s₁.setTop (mkF m 6 #[.val (.int (16 : Int32)), .unset] [(.int (15 : Int32)), (.int (-17 : Int32))]))
  refine Goes.pre (fun t kt => XS.iand X0.here hx rfl (hb hby d4_6) rfl kt) ?_
  show Goes p e below s _ _ _ (s₁.setTop (mkF m 7 #[.val (.int (16 : Int32)), .unset] [(.int (15 : Int32))]))
  refine Goes.pre (fun t kt => XS.istoreN X0.here hx rfl (hb hby d4_7) rfl (l' := #[.val (.int (15 : Int32)), .unset]) rfl kt) ?_
  show Goes p e below s _ _ _ (s₁.setTop (mkF m 8 #[.val (.int (15 : Int32)), .unset] []))
  refine Goes.pre (fun t kt => XS.iloadN X0.here hx rfl (hb hby d4_8) rfl kt) ?_
  show Goes p e below s _ _ _ (s₁.setTop (mkF m 9 #[.val (.int (15 : Int32)), .unset] [(.int (15 : Int32))]))
  refine Goes.pre (fun t kt => XS.ifYes X0.here hx rfl (pc0 := 9) (pc' := 17) rfl (hb hby d4_9) rfl (Jvm.Free.XT.i0_gt_t ((by decide))) (by decide) (by decide) kt) ?_
  show Goes p e below s _ _ _ (s₁.setTop (mkF m 17 #[.val (.int (15 : Int32)), .unset] []))
  refine Goes.pre (fun t kt => XS.iconst X0.here hx rfl (hb hby d4_17) kt) ?_
  show Goes p e below s _ _ _ (s₁.setTop (mkF m 18 #[.val (.int (15 : Int32)), .unset] [(.int (1 : Int32))]))
  refine Goes.pre (fun t kt => XS.istoreN X0.here hx rfl (hb hby d4_18) rfl (l' := #[.val (.int (15 : Int32)), .val (.int (1 : Int32))]) rfl kt) ?_
  show Goes p e below s _ _ _ (s₁.setTop (mkF m 19 #[.val (.int (15 : Int32)), .val (.int (1 : Int32))] []))
  refine Goes.pre (fun t kt => XS.iloadN X0.here hx rfl (hb hby d4_19) rfl kt) ?_
  show Goes p e below s _ _ _ (s₁.setTop (mkF m 20 #[.val (.int (15 : Int32)), .val (.int (1 : Int32))] [(.int (15 : Int32))]))
  refine Goes.pre (X0.ldcWInt hx hown (mvT hZ (hw _ (List.mem_of_getElem? (i := 21) rfl))) (g := (mkF m 20 #[.val (.int (15 : Int32)), .val (.int (1 : Int32))] [(.int (15 : Int32))])) rfl (hb hby d4_20)) ?_
  show Goes p e below s _ _ _ (s₁.setTop (mkF m 23 #[.val (.int (15 : Int32)), .val (.int (1 : Int32))] [(.int (65536 : Int32)), (.int (15 : Int32))]))
  refine Goes.pre (fun t kt => XS.icmpYes X0.here hx rfl (pc0 := 23) (pc' := 34) rfl (hb hby d4_23) rfl (Jvm.Free.XT.ii_le_t ((by decide))) (by decide) (by decide) kt) ?_
  show Goes p e below s _ _ _ (s₁.setTop (mkF m 34 #[.val (.int (15 : Int32)), .val (.int (1 : Int32))] []))
  refine Goes.pre (fun t kt => XS.iloadN X0.here hx rfl (hb hby d4_34) rfl kt) ?_
  show Goes p e below s _ _ _ (s₁.setTop (mkF m 35 #[.val (.int (15 : Int32)), .val (.int (1 : Int32))] [(.int (15 : Int32))]))
  refine Goes.pre (fun t kt => XS.sipush X0.here hx rfl (hb hby d4_35) kt) ?_
  show Goes p e below s _ _ _ (s₁.setTop (mkF m 38 #[.val (.int (15 : Int32)), .val (.int (1 : Int32))] [(.int (256 : Int32)), (.int (15 : Int32))]))
  refine Goes.pre (fun t kt => XS.icmpYes X0.here hx rfl (pc0 := 38) (pc' := 49) rfl (hb hby d4_38) rfl (Jvm.Free.XT.ii_le_t ((by decide))) (by decide) (by decide) kt) ?_
  show Goes p e below s _ _ _ (s₁.setTop (mkF m 49 #[.val (.int (15 : Int32)), .val (.int (1 : Int32))] []))
  refine Goes.pre (fun t kt => XS.iloadN X0.here hx rfl (hb hby d4_49) rfl kt) ?_
  show Goes p e below s _ _ _ (s₁.setTop (mkF m 50 #[.val (.int (15 : Int32)), .val (.int (1 : Int32))] [(.int (15 : Int32))]))
  refine Goes.pre (fun t kt => XS.bipush X0.here hx rfl (hb hby d4_50) kt) ?_
  show Goes p e below s _ _ _ (s₁.setTop (mkF m 52 #[.val (.int (15 : Int32)), .val (.int (1 : Int32))] [(.int (16 : Int32)), (.int (15 : Int32))]))
  refine Goes.pre (fun t kt => XS.icmpYes X0.here hx rfl (pc0 := 52) (pc' := 62) rfl (hb hby d4_52) rfl (Jvm.Free.XT.ii_le_t ((by decide))) (by decide) (by decide) kt) ?_
  show Goes p e below s _ _ _ (s₁.setTop (mkF m 62 #[.val (.int (15 : Int32)), .val (.int (1 : Int32))] []))
  refine Goes.pre (fun t kt => XS.iloadN X0.here hx rfl (hb hby d4_62) rfl kt) ?_
  show Goes p e below s _ _ _ (s₁.setTop (mkF m 63 #[.val (.int (15 : Int32)), .val (.int (1 : Int32))] [(.int (15 : Int32))]))
  refine Goes.pre (fun t kt => XS.iconst X0.here hx rfl (hb hby d4_63) kt) ?_
  show Goes p e below s _ _ _ (s₁.setTop (mkF m 64 #[.val (.int (15 : Int32)), .val (.int (1 : Int32))] [(.int (4 : Int32)), (.int (15 : Int32))]))
  refine Goes.pre (fun t kt => XS.icmpNo X0.here hx rfl (hb hby d4_64) rfl (Jvm.Free.XT.ii_le_f ((by decide))) kt) ?_
  show Goes p e below s _ _ _ (s₁.setTop (mkF m 67 #[.val (.int (15 : Int32)), .val (.int (1 : Int32))] []))
  refine Goes.pre (fun t kt => XS.iinc X0.here hx rfl (hb hby d4_67) rfl (l' := #[.val (.int (15 : Int32)), .val (.int (3 : Int32))]) rfl kt) ?_
  show Goes p e below s _ _ _ (s₁.setTop (mkF m 70 #[.val (.int (15 : Int32)), .val (.int (3 : Int32))] []))
  refine Goes.pre (fun t kt => XS.iloadN X0.here hx rfl (hb hby d4_70) rfl kt) ?_
  show Goes p e below s _ _ _ (s₁.setTop (mkF m 71 #[.val (.int (15 : Int32)), .val (.int (3 : Int32))] [(.int (15 : Int32))]))
  refine Goes.pre (fun t kt => XS.iconst X0.here hx rfl (hb hby d4_71) kt) ?_
  show Goes p e below s _ _ _ (s₁.setTop (mkF m 72 #[.val (.int (15 : Int32)), .val (.int (3 : Int32))] [(.int (2 : Int32)), (.int (15 : Int32))]))
  refine Goes.pre (fun t kt => XS.iushr X0.here hx rfl (hb hby d4_72) rfl kt) ?_
  show Goes p e below s _ _ _ (s₁.setTop (mkF m 73 #[.val (.int (15 : Int32)), .val (.int (3 : Int32))] [(.int (3 : Int32))]))
  refine Goes.pre (fun t kt => XS.istoreN X0.here hx rfl (hb hby d4_73) rfl (l' := #[.val (.int (3 : Int32)), .val (.int (3 : Int32))]) rfl kt) ?_
  show Goes p e below s _ _ _ (s₁.setTop (mkF m 74 #[.val (.int (3 : Int32)), .val (.int (3 : Int32))] []))
  refine Goes.pre (fun t kt => XS.iloadN X0.here hx rfl (hb hby d4_74) rfl kt) ?_
  show Goes p e below s _ _ _ (s₁.setTop (mkF m 75 #[.val (.int (3 : Int32)), .val (.int (3 : Int32))] [(.int (3 : Int32))]))
  refine Goes.pre (fun t kt => XS.iloadN X0.here hx rfl (hb hby d4_75) rfl kt) ?_
  show Goes p e below s _ _ _ (s₁.setTop (mkF m 76 #[.val (.int (3 : Int32)), .val (.int (3 : Int32))] [(.int (3 : Int32)), (.int (3 : Int32))]))
  refine Goes.pre (fun t kt => XS.iconst X0.here hx rfl (hb hby d4_76) kt) ?_
  show Goes p e below s _ _ _ (s₁.setTop (mkF m 77 #[.val (.int (3 : Int32)), .val (.int (3 : Int32))] [(.int (1 : Int32)), (.int (3 : Int32)), (.int (3 : Int32))]))
  refine Goes.pre (fun t kt => XS.iushr X0.here hx rfl (hb hby d4_77) rfl kt) ?_
  show Goes p e below s _ _ _ (s₁.setTop (mkF m 78 #[.val (.int (3 : Int32)), .val (.int (3 : Int32))] [(.int (1 : Int32)), (.int (3 : Int32))]))
  refine Goes.pre (fun t kt => XS.iadd X0.here hx rfl (hb hby d4_78) rfl kt) ?_
  show Goes p e below s _ _ _ (s₁.setTop (mkF m 79 #[.val (.int (3 : Int32)), .val (.int (3 : Int32))] [(.int (4 : Int32))]))
  refine Goes.ret X0 (some (.int (4 : Int32))) (fun h => by rw [Bd.returns] at h; cases h) (BodyLoose.notSynchronized Bd) (by decide) (by decide) (fun fs hr => retOut X0 hx (t := .int) Bd.returns rfl (Or.inl ⟨rfl, Or.inl rfl, _, rfl⟩) (hb hby d4_79) hr) ?_
  show Q_rmntz Z  h0 n0 _ s₁.heap _
  rw [e0]
  exact ⟨rfl, N0, rfl⟩
theorem d5_0 : decode jdk_65_method_103_code 0 = .ok (.iconst 0, 1) := by decide +kernel
theorem d5_1 : decode jdk_65_method_103_code 1 = .ok (.istore_n 2, 1) := by decide +kernel
theorem d5_2 : decode jdk_65_method_103_code 2 = .ok (.aload_n 0, 1) := by decide +kernel
theorem d5_3 : decode jdk_65_method_103_code 3 = .ok (.arraylength, 1) := by decide +kernel
theorem d5_4 : decode jdk_65_method_103_code 4 = .ok (.istore_n 3, 1) := by decide +kernel
theorem d5_5 : decode jdk_65_method_103_code 5 = .ok (.iload_n 2, 1) := by decide +kernel
theorem d5_6 : decode jdk_65_method_103_code 6 = .ok (.iload_n 3, 1) := by decide +kernel
theorem d5_7 : decode jdk_65_method_103_code 7 = .ok (.if_icmp .ge 13, 3) := by decide +kernel
theorem d5_10 : decode jdk_65_method_103_code 10 = .ok (.aload_n 0, 1) := by decide +kernel
theorem d5_11 : decode jdk_65_method_103_code 11 = .ok (.iload_n 2, 1) := by decide +kernel
theorem d5_12 : decode jdk_65_method_103_code 12 = .ok (.iload_n 1, 1) := by decide +kernel
theorem d5_13 : decode jdk_65_method_103_code 13 = .ok (.iastore, 1) := by decide +kernel
theorem d5_14 : decode jdk_65_method_103_code 14 = .ok (.iinc 2 1, 3) := by decide +kernel
theorem d5_17 : decode jdk_65_method_103_code 17 = .ok (.goto (-12), 3) := by decide +kernel
theorem d5_20 : decode jdk_65_method_103_code 20 = .ok (.return_, 1) := by decide +kernel
theorem pn_1 : plainName "java/util/Arrays" = true := by first | (simp [plainName, overriddenIn]; done) | decide +kernel
def Q_rmfill (Z : State) (ta : Addr) (kk : ClassId) (h0 : Heap) (n0 : Nat) (v : Option Value) (h : Heap) (L : List Loc) : Prop := v = none ∧ Fr n0 L ∧ Keep h0 h [ta] ∧ (Arv Z h ta kk .int (16 : Int32) [(.int (-1 : Int32)), (.int (-1 : Int32)), (.int (-1 : Int32)), (.int (-1 : Int32)), (.int (-1 : Int32)), (.int (-1 : Int32)), (.int (-1 : Int32)), (.int (-1 : Int32)), (.int (-1 : Int32)), (.int (-1 : Int32)), (.int (-1 : Int32)), (.int (-1 : Int32)), (.int (-1 : Int32)), (.int (-1 : Int32)), (.int (-1 : Int32)), (.int (-1 : Int32))] (.int (0 : Int32)))
theorem ef_rmfill (m : MethodId) (ta : Addr) : entryFrame m #[(.ref ta), (.int (-1 : Int32))] 4 = mkF m 0 #[.val (.ref ta), .val (.int (-1 : Int32)), .unset, .unset] [] := by first | (simp [entryFrame, mkF, argsToLocals, Value.category]; done) | rfl
set_option maxRecDepth 65536 in
set_option maxHeartbeats 40000000 in
theorem rmfill (l : Launch) (Z : State) (a0 : Array Value) (hw : ∀ d ∈ tables_1, d.before a0 Z = true) (ws : List Jvm.Cond) (ta : Addr) (kk : ClassId) (h0 : Heap) (n0 : Nat) (Z0 : n0 ≤ h0.size) (pf_V_ta : Arv Z h0 ta kk .int (16 : Int32) [(.int (0 : Int32)), (.int (0 : Int32)), (.int (0 : Int32)), (.int (0 : Int32)), (.int (0 : Int32)), (.int (0 : Int32)), (.int (0 : Int32)), (.int (0 : Int32)), (.int (0 : Int32)), (.int (0 : Int32)), (.int (0 : Int32)), (.int (0 : Int32)), (.int (0 : Int32)), (.int (0 : Int32)), (.int (0 : Int32)), (.int (0 : Int32))] (.int (0 : Int32))) (pf_G_ta : n0 ≤ ta) :
    MetFree l (⟨"java/util/Arrays", "fill", "([II)V"⟩ : MethodName) (head1 (Jvm.Cond.code (⟨"java/util/Arrays", "fill", "([II)V"⟩ : MethodName) jdk_65_method_103_code 4 none :: ws) ({ frames := 0, cells := 0, slots := 0, locals := 0 } : Room)) (fun a U => a = #[(.ref ta), (.int (-1 : Int32))] ∧ Z.Warmed39 U.vm ∧ U.heap = h0) (fun _ _ _ _ _ => True) (fun _ U o U' => ∃ v L, o = .returned v ∧ Q_rmfill Z ta kk h0 n0 v U'.heap L ∧ FrameEnd U o U' L ({ frames := 0, cells := 0, slots := 0, locals := 0 } : Room).cells ({ frames := 0, cells := 0, slots := 0, locals := 0 } : Room).slots) := by
  refine MetFree.of_bodySF (plainFor_of_name pn_1) hisR ?_
  intro p e s m args below meth c s₁ Bd hml0 hP hK
  obtain ⟨rfl, hZ, hh⟩ := hP
  have hx := Bd.exec
  have hby := Bd.bytes
  have hml : c.maxLocals = 4 := hml0
  have hown : s.vm.findClass "java/util/Arrays" = some m.cls := findClass_of_methodNamed Bd.named
  have hnm := (name_of_methodNamed Bd.named Bd.method).1
  have X0 : Stand p l e ({ frames := 0, cells := 0, slots := 0, locals := 0 } : Room) s m #[(.ref ta), (.int (-1 : Int32))] below meth c s₁ [] 0 0 := Stand.of_body Bd
  have e0 : s₁.heap = h0 := by rw [← hh, Bd.state]; rfl
  have N0 := Fr.nil n0
  have K0 := Keep.refl h0 [ta]
  show Goes p e below s (Q_rmfill Z ta kk h0 n0) ({ frames := 0, cells := 0, slots := 0, locals := 0 } : Room).cells ({ frames := 0, cells := 0, slots := 0, locals := 0 } : Room).slots (s₁.setTop (entryFrame m #[(.ref ta), (.int (-1 : Int32))] 4))
  refine Goes.pre (fun t kt => castTop (ef_rmfill m ta) kt) ?_
  show Goes p e below s _ _ _ (s₁.setTop (mkF m 0 #[.val (.ref ta), .val (.int (-1 : Int32)), .unset, .unset] []))
  refine Goes.pre (fun t kt => XS.iconst X0.here hx rfl (hb hby d5_0) kt) ?_
  show Goes p e below s _ _ _ (s₁.setTop (mkF m 1 #[.val (.ref ta), .val (.int (-1 : Int32)), .unset, .unset] [(.int (0 : Int32))]))
  refine Goes.pre (fun t kt => XS.istoreN X0.here hx rfl (hb hby d5_1) rfl (l' := #[.val (.ref ta), .val (.int (-1 : Int32)), .val (.int (0 : Int32)), .unset]) rfl kt) ?_
  show Goes p e below s _ _ _ (s₁.setTop (mkF m 2 #[.val (.ref ta), .val (.int (-1 : Int32)), .val (.int (0 : Int32)), .unset] []))
  refine Goes.pre (fun t kt => XS.aloadN X0.here hx rfl (hb hby d5_2) rfl rfl kt) ?_
  show Goes p e below s _ _ _ (s₁.setTop (mkF m 3 #[.val (.ref ta), .val (.int (-1 : Int32)), .val (.int (0 : Int32)), .unset] [(.ref ta)]))
  obtain ⟨cl1, Ar1, aq1, aS1, aN1, aH1, aG1⟩ := pf_V_ta
  have V1 : Arv Z h0 ta kk .int (16 : Int32) [(.int (0 : Int32)), (.int (0 : Int32)), (.int (0 : Int32)), (.int (0 : Int32)), (.int (0 : Int32)), (.int (0 : Int32)), (.int (0 : Int32)), (.int (0 : Int32)), (.int (0 : Int32)), (.int (0 : Int32)), (.int (0 : Int32)), (.int (0 : Int32)), (.int (0 : Int32)), (.int (0 : Int32)), (.int (0 : Int32)), (.int (0 : Int32))] (.int (0 : Int32)) := ⟨cl1, Ar1, aq1, aS1, aN1, aH1, aG1⟩
  refine Goes.pre (X0.arraylength hx (by rw [e0]; exact Ar1.1) (State.isArrayOf_alike hZ.alike Ar1.2.1) (g := (mkF m 3 #[.val (.ref ta), .val (.int (-1 : Int32)), .val (.int (0 : Int32)), .unset] [(.ref ta)])) rfl rfl (hb hby d5_3)) ?_
  rw [len_of aS1 aN1]
  show Goes p e below s _ _ _ (s₁.setTop (mkF m 4 #[.val (.ref ta), .val (.int (-1 : Int32)), .val (.int (0 : Int32)), .unset] [(.int (16 : Int32))]))
  refine Goes.pre (fun t kt => XS.istoreN X0.here hx rfl (hb hby d5_4) rfl (l' := #[.val (.ref ta), .val (.int (-1 : Int32)), .val (.int (0 : Int32)), .val (.int (16 : Int32))]) rfl kt) ?_
  show Goes p e below s _ _ _ (s₁.setTop (mkF m 5 #[.val (.ref ta), .val (.int (-1 : Int32)), .val (.int (0 : Int32)), .val (.int (16 : Int32))] []))
  refine Goes.pre (fun t kt => XS.iloadN X0.here hx rfl (hb hby d5_5) rfl kt) ?_
  show Goes p e below s _ _ _ (s₁.setTop (mkF m 6 #[.val (.ref ta), .val (.int (-1 : Int32)), .val (.int (0 : Int32)), .val (.int (16 : Int32))] [(.int (0 : Int32))]))
  refine Goes.pre (fun t kt => XS.iloadN X0.here hx rfl (hb hby d5_6) rfl kt) ?_
  show Goes p e below s _ _ _ (s₁.setTop (mkF m 7 #[.val (.ref ta), .val (.int (-1 : Int32)), .val (.int (0 : Int32)), .val (.int (16 : Int32))] [(.int (16 : Int32)), (.int (0 : Int32))]))
  refine Goes.pre (fun t kt => XS.icmpNo X0.here hx rfl (hb hby d5_7) rfl (Jvm.Free.XT.ii_ge_f ((by decide))) kt) ?_
  show Goes p e below s _ _ _ (s₁.setTop (mkF m 10 #[.val (.ref ta), .val (.int (-1 : Int32)), .val (.int (0 : Int32)), .val (.int (16 : Int32))] []))
  refine Goes.pre (fun t kt => XS.aloadN X0.here hx rfl (hb hby d5_10) rfl rfl kt) ?_
  show Goes p e below s _ _ _ (s₁.setTop (mkF m 11 #[.val (.ref ta), .val (.int (-1 : Int32)), .val (.int (0 : Int32)), .val (.int (16 : Int32))] [(.ref ta)]))
  refine Goes.pre (fun t kt => XS.iloadN X0.here hx rfl (hb hby d5_11) rfl kt) ?_
  show Goes p e below s _ _ _ (s₁.setTop (mkF m 12 #[.val (.ref ta), .val (.int (-1 : Int32)), .val (.int (0 : Int32)), .val (.int (16 : Int32))] [(.int (0 : Int32)), (.ref ta)]))
  refine Goes.pre (fun t kt => XS.iloadN X0.here hx rfl (hb hby d5_12) rfl kt) ?_
  show Goes p e below s _ _ _ (s₁.setTop (mkF m 13 #[.val (.ref ta), .val (.int (-1 : Int32)), .val (.int (0 : Int32)), .val (.int (16 : Int32))] [(.int (-1 : Int32)), (.int (0 : Int32)), (.ref ta)]))
  obtain ⟨cl2, Ar2, aq2, aS2, aN2, aH2, aG2⟩ := V1
  have hin2 : ¬ ((0 : Int32) < 0 ∨ cl2.slots.size ≤ ((0 : Int32)).toNatClampNeg) := inb_of aS2 ⟨by decide, by decide⟩
  obtain ⟨T2, h2, X2, e2, W2, st2⟩ := stI X0 hx hZ e0 Ar2 (j := (0 : Int32)) hin2 (g := (mkF m 13 #[.val (.ref ta), .val (.int (-1 : Int32)), .val (.int (0 : Int32)), .val (.int (16 : Int32))] [(.int (-1 : Int32)), (.int (0 : Int32)), (.ref ta)])) rfl rfl (hb hby d5_13)
  refine Goes.pre st2 ?_
  have Z2 : n0 ≤ h2.size := Nat.le_trans Z0 (Keep.of_wr W2).1
  have N2 := Fr.snoc X2 N0 pf_G_ta
  have K2 := K0.wr W2 (Or.inl (List.mem_of_getElem? (i := 0) rfl))
  have V2 : Arv Z h2 ta kk .int (16 : Int32) [(.int (-1 : Int32)), (.int (0 : Int32)), (.int (0 : Int32)), (.int (0 : Int32)), (.int (0 : Int32)), (.int (0 : Int32)), (.int (0 : Int32)), (.int (0 : Int32)), (.int (0 : Int32)), (.int (0 : Int32)), (.int (0 : Int32)), (.int (0 : Int32)), (.int (0 : Int32)), (.int (0 : Int32)), (.int (0 : Int32)), (.int (0 : Int32))] (.int (0 : Int32)) := Arv.set Ar2 aq2 aS2 aN2 aH2 aG2 rfl W2 0 rfl (Nat.le_of_ble_eq_true rfl)
  show Goes p e below s _ _ _ (T2.setTop (mkF m 14 #[.val (.ref ta), .val (.int (-1 : Int32)), .val (.int (0 : Int32)), .val (.int (16 : Int32))] []))
  refine Goes.pre (fun t kt => XS.iinc X2.here hx rfl (hb hby d5_14) rfl (l' := #[.val (.ref ta), .val (.int (-1 : Int32)), .val (.int (1 : Int32)), .val (.int (16 : Int32))]) rfl kt) ?_
  show Goes p e below s _ _ _ (T2.setTop (mkF m 17 #[.val (.ref ta), .val (.int (-1 : Int32)), .val (.int (1 : Int32)), .val (.int (16 : Int32))] []))
  refine Goes.pre (fun t kt => XS.goto X2.here hx rfl (pc0 := 17) (pc' := 5) rfl (hb hby d5_17) (by decide) (by decide) kt) ?_
  show Goes p e below s _ _ _ (T2.setTop (mkF m 5 #[.val (.ref ta), .val (.int (-1 : Int32)), .val (.int (1 : Int32)), .val (.int (16 : Int32))] []))
  refine Goes.pre (fun t kt => XS.iloadN X2.here hx rfl (hb hby d5_5) rfl kt) ?_
  show Goes p e below s _ _ _ (T2.setTop (mkF m 6 #[.val (.ref ta), .val (.int (-1 : Int32)), .val (.int (1 : Int32)), .val (.int (16 : Int32))] [(.int (1 : Int32))]))
  refine Goes.pre (fun t kt => XS.iloadN X2.here hx rfl (hb hby d5_6) rfl kt) ?_
  show Goes p e below s _ _ _ (T2.setTop (mkF m 7 #[.val (.ref ta), .val (.int (-1 : Int32)), .val (.int (1 : Int32)), .val (.int (16 : Int32))] [(.int (16 : Int32)), (.int (1 : Int32))]))
  refine Goes.pre (fun t kt => XS.icmpNo X2.here hx rfl (hb hby d5_7) rfl (Jvm.Free.XT.ii_ge_f ((by decide))) kt) ?_
  show Goes p e below s _ _ _ (T2.setTop (mkF m 10 #[.val (.ref ta), .val (.int (-1 : Int32)), .val (.int (1 : Int32)), .val (.int (16 : Int32))] []))
  refine Goes.pre (fun t kt => XS.aloadN X2.here hx rfl (hb hby d5_10) rfl rfl kt) ?_
  show Goes p e below s _ _ _ (T2.setTop (mkF m 11 #[.val (.ref ta), .val (.int (-1 : Int32)), .val (.int (1 : Int32)), .val (.int (16 : Int32))] [(.ref ta)]))
  refine Goes.pre (fun t kt => XS.iloadN X2.here hx rfl (hb hby d5_11) rfl kt) ?_
  show Goes p e below s _ _ _ (T2.setTop (mkF m 12 #[.val (.ref ta), .val (.int (-1 : Int32)), .val (.int (1 : Int32)), .val (.int (16 : Int32))] [(.int (1 : Int32)), (.ref ta)]))
  refine Goes.pre (fun t kt => XS.iloadN X2.here hx rfl (hb hby d5_12) rfl kt) ?_
  show Goes p e below s _ _ _ (T2.setTop (mkF m 13 #[.val (.ref ta), .val (.int (-1 : Int32)), .val (.int (1 : Int32)), .val (.int (16 : Int32))] [(.int (-1 : Int32)), (.int (1 : Int32)), (.ref ta)]))
  obtain ⟨cl3, Ar3, aq3, aS3, aN3, aH3, aG3⟩ := V2
  have hin3 : ¬ ((1 : Int32) < 0 ∨ cl3.slots.size ≤ ((1 : Int32)).toNatClampNeg) := inb_of aS3 ⟨by decide, by decide⟩
  obtain ⟨T3, h3, X3, e3, W3, st3⟩ := stI X2 hx hZ e2 Ar3 (j := (1 : Int32)) hin3 (g := (mkF m 13 #[.val (.ref ta), .val (.int (-1 : Int32)), .val (.int (1 : Int32)), .val (.int (16 : Int32))] [(.int (-1 : Int32)), (.int (1 : Int32)), (.ref ta)])) rfl rfl (hb hby d5_13)
  refine Goes.pre st3 ?_
  have Z3 : n0 ≤ h3.size := Nat.le_trans Z2 (Keep.of_wr W3).1
  have N3 := Fr.snoc X3 N2 pf_G_ta
  have K3 := K2.wr W3 (Or.inl (List.mem_of_getElem? (i := 0) rfl))
  have V3 : Arv Z h3 ta kk .int (16 : Int32) [(.int (-1 : Int32)), (.int (-1 : Int32)), (.int (0 : Int32)), (.int (0 : Int32)), (.int (0 : Int32)), (.int (0 : Int32)), (.int (0 : Int32)), (.int (0 : Int32)), (.int (0 : Int32)), (.int (0 : Int32)), (.int (0 : Int32)), (.int (0 : Int32)), (.int (0 : Int32)), (.int (0 : Int32)), (.int (0 : Int32)), (.int (0 : Int32))] (.int (0 : Int32)) := Arv.set Ar3 aq3 aS3 aN3 aH3 aG3 rfl W3 1 rfl (Nat.le_of_ble_eq_true rfl)
  show Goes p e below s _ _ _ (T3.setTop (mkF m 14 #[.val (.ref ta), .val (.int (-1 : Int32)), .val (.int (1 : Int32)), .val (.int (16 : Int32))] []))
  refine Goes.pre (fun t kt => XS.iinc X3.here hx rfl (hb hby d5_14) rfl (l' := #[.val (.ref ta), .val (.int (-1 : Int32)), .val (.int (2 : Int32)), .val (.int (16 : Int32))]) rfl kt) ?_
  show Goes p e below s _ _ _ (T3.setTop (mkF m 17 #[.val (.ref ta), .val (.int (-1 : Int32)), .val (.int (2 : Int32)), .val (.int (16 : Int32))] []))
  refine Goes.pre (fun t kt => XS.goto X3.here hx rfl (pc0 := 17) (pc' := 5) rfl (hb hby d5_17) (by decide) (by decide) kt) ?_
  show Goes p e below s _ _ _ (T3.setTop (mkF m 5 #[.val (.ref ta), .val (.int (-1 : Int32)), .val (.int (2 : Int32)), .val (.int (16 : Int32))] []))
  refine Goes.pre (fun t kt => XS.iloadN X3.here hx rfl (hb hby d5_5) rfl kt) ?_
  show Goes p e below s _ _ _ (T3.setTop (mkF m 6 #[.val (.ref ta), .val (.int (-1 : Int32)), .val (.int (2 : Int32)), .val (.int (16 : Int32))] [(.int (2 : Int32))]))
  refine Goes.pre (fun t kt => XS.iloadN X3.here hx rfl (hb hby d5_6) rfl kt) ?_
  show Goes p e below s _ _ _ (T3.setTop (mkF m 7 #[.val (.ref ta), .val (.int (-1 : Int32)), .val (.int (2 : Int32)), .val (.int (16 : Int32))] [(.int (16 : Int32)), (.int (2 : Int32))]))
  refine Goes.pre (fun t kt => XS.icmpNo X3.here hx rfl (hb hby d5_7) rfl (Jvm.Free.XT.ii_ge_f ((by decide))) kt) ?_
  show Goes p e below s _ _ _ (T3.setTop (mkF m 10 #[.val (.ref ta), .val (.int (-1 : Int32)), .val (.int (2 : Int32)), .val (.int (16 : Int32))] []))
  refine Goes.pre (fun t kt => XS.aloadN X3.here hx rfl (hb hby d5_10) rfl rfl kt) ?_
  show Goes p e below s _ _ _ (T3.setTop (mkF m 11 #[.val (.ref ta), .val (.int (-1 : Int32)), .val (.int (2 : Int32)), .val (.int (16 : Int32))] [(.ref ta)]))
  refine Goes.pre (fun t kt => XS.iloadN X3.here hx rfl (hb hby d5_11) rfl kt) ?_
  show Goes p e below s _ _ _ (T3.setTop (mkF m 12 #[.val (.ref ta), .val (.int (-1 : Int32)), .val (.int (2 : Int32)), .val (.int (16 : Int32))] [(.int (2 : Int32)), (.ref ta)]))
  refine Goes.pre (fun t kt => XS.iloadN X3.here hx rfl (hb hby d5_12) rfl kt) ?_
  show Goes p e below s _ _ _ (T3.setTop (mkF m 13 #[.val (.ref ta), .val (.int (-1 : Int32)), .val (.int (2 : Int32)), .val (.int (16 : Int32))] [(.int (-1 : Int32)), (.int (2 : Int32)), (.ref ta)]))
  obtain ⟨cl4, Ar4, aq4, aS4, aN4, aH4, aG4⟩ := V3
  have hin4 : ¬ ((2 : Int32) < 0 ∨ cl4.slots.size ≤ ((2 : Int32)).toNatClampNeg) := inb_of aS4 ⟨by decide, by decide⟩
  obtain ⟨T4, h4, X4, e4, W4, st4⟩ := stI X3 hx hZ e3 Ar4 (j := (2 : Int32)) hin4 (g := (mkF m 13 #[.val (.ref ta), .val (.int (-1 : Int32)), .val (.int (2 : Int32)), .val (.int (16 : Int32))] [(.int (-1 : Int32)), (.int (2 : Int32)), (.ref ta)])) rfl rfl (hb hby d5_13)
  refine Goes.pre st4 ?_
  have Z4 : n0 ≤ h4.size := Nat.le_trans Z3 (Keep.of_wr W4).1
  have N4 := Fr.snoc X4 N3 pf_G_ta
  have K4 := K3.wr W4 (Or.inl (List.mem_of_getElem? (i := 0) rfl))
  have V4 : Arv Z h4 ta kk .int (16 : Int32) [(.int (-1 : Int32)), (.int (-1 : Int32)), (.int (-1 : Int32)), (.int (0 : Int32)), (.int (0 : Int32)), (.int (0 : Int32)), (.int (0 : Int32)), (.int (0 : Int32)), (.int (0 : Int32)), (.int (0 : Int32)), (.int (0 : Int32)), (.int (0 : Int32)), (.int (0 : Int32)), (.int (0 : Int32)), (.int (0 : Int32)), (.int (0 : Int32))] (.int (0 : Int32)) := Arv.set Ar4 aq4 aS4 aN4 aH4 aG4 rfl W4 2 rfl (Nat.le_of_ble_eq_true rfl)
  show Goes p e below s _ _ _ (T4.setTop (mkF m 14 #[.val (.ref ta), .val (.int (-1 : Int32)), .val (.int (2 : Int32)), .val (.int (16 : Int32))] []))
  refine Goes.pre (fun t kt => XS.iinc X4.here hx rfl (hb hby d5_14) rfl (l' := #[.val (.ref ta), .val (.int (-1 : Int32)), .val (.int (3 : Int32)), .val (.int (16 : Int32))]) rfl kt) ?_
  show Goes p e below s _ _ _ (T4.setTop (mkF m 17 #[.val (.ref ta), .val (.int (-1 : Int32)), .val (.int (3 : Int32)), .val (.int (16 : Int32))] []))
  refine Goes.pre (fun t kt => XS.goto X4.here hx rfl (pc0 := 17) (pc' := 5) rfl (hb hby d5_17) (by decide) (by decide) kt) ?_
  show Goes p e below s _ _ _ (T4.setTop (mkF m 5 #[.val (.ref ta), .val (.int (-1 : Int32)), .val (.int (3 : Int32)), .val (.int (16 : Int32))] []))
  refine Goes.pre (fun t kt => XS.iloadN X4.here hx rfl (hb hby d5_5) rfl kt) ?_
  show Goes p e below s _ _ _ (T4.setTop (mkF m 6 #[.val (.ref ta), .val (.int (-1 : Int32)), .val (.int (3 : Int32)), .val (.int (16 : Int32))] [(.int (3 : Int32))]))
  refine Goes.pre (fun t kt => XS.iloadN X4.here hx rfl (hb hby d5_6) rfl kt) ?_
  show Goes p e below s _ _ _ (T4.setTop (mkF m 7 #[.val (.ref ta), .val (.int (-1 : Int32)), .val (.int (3 : Int32)), .val (.int (16 : Int32))] [(.int (16 : Int32)), (.int (3 : Int32))]))
  refine Goes.pre (fun t kt => XS.icmpNo X4.here hx rfl (hb hby d5_7) rfl (Jvm.Free.XT.ii_ge_f ((by decide))) kt) ?_
  show Goes p e below s _ _ _ (T4.setTop (mkF m 10 #[.val (.ref ta), .val (.int (-1 : Int32)), .val (.int (3 : Int32)), .val (.int (16 : Int32))] []))
  refine Goes.pre (fun t kt => XS.aloadN X4.here hx rfl (hb hby d5_10) rfl rfl kt) ?_
  show Goes p e below s _ _ _ (T4.setTop (mkF m 11 #[.val (.ref ta), .val (.int (-1 : Int32)), .val (.int (3 : Int32)), .val (.int (16 : Int32))] [(.ref ta)]))
  refine Goes.pre (fun t kt => XS.iloadN X4.here hx rfl (hb hby d5_11) rfl kt) ?_
  show Goes p e below s _ _ _ (T4.setTop (mkF m 12 #[.val (.ref ta), .val (.int (-1 : Int32)), .val (.int (3 : Int32)), .val (.int (16 : Int32))] [(.int (3 : Int32)), (.ref ta)]))
  refine Goes.pre (fun t kt => XS.iloadN X4.here hx rfl (hb hby d5_12) rfl kt) ?_
  show Goes p e below s _ _ _ (T4.setTop (mkF m 13 #[.val (.ref ta), .val (.int (-1 : Int32)), .val (.int (3 : Int32)), .val (.int (16 : Int32))] [(.int (-1 : Int32)), (.int (3 : Int32)), (.ref ta)]))
  obtain ⟨cl5, Ar5, aq5, aS5, aN5, aH5, aG5⟩ := V4
  have hin5 : ¬ ((3 : Int32) < 0 ∨ cl5.slots.size ≤ ((3 : Int32)).toNatClampNeg) := inb_of aS5 ⟨by decide, by decide⟩
  obtain ⟨T5, h5, X5, e5, W5, st5⟩ := stI X4 hx hZ e4 Ar5 (j := (3 : Int32)) hin5 (g := (mkF m 13 #[.val (.ref ta), .val (.int (-1 : Int32)), .val (.int (3 : Int32)), .val (.int (16 : Int32))] [(.int (-1 : Int32)), (.int (3 : Int32)), (.ref ta)])) rfl rfl (hb hby d5_13)
  refine Goes.pre st5 ?_
  have Z5 : n0 ≤ h5.size := Nat.le_trans Z4 (Keep.of_wr W5).1
  have N5 := Fr.snoc X5 N4 pf_G_ta
  have K5 := K4.wr W5 (Or.inl (List.mem_of_getElem? (i := 0) rfl))
  have V5 : Arv Z h5 ta kk .int (16 : Int32) [(.int (-1 : Int32)), (.int (-1 : Int32)), (.int (-1 : Int32)), (.int (-1 : Int32)), (.int (0 : Int32)), (.int (0 : Int32)), (.int (0 : Int32)), (.int (0 : Int32)), (.int (0 : Int32)), (.int (0 : Int32)), (.int (0 : Int32)), (.int (0 : Int32)), (.int (0 : Int32)), (.int (0 : Int32)), (.int (0 : Int32)), (.int (0 : Int32))] (.int (0 : Int32)) := Arv.set Ar5 aq5 aS5 aN5 aH5 aG5 rfl W5 3 rfl (Nat.le_of_ble_eq_true rfl)
  show Goes p e below s _ _ _ (T5.setTop (mkF m 14 #[.val (.ref ta), .val (.int (-1 : Int32)), .val (.int (3 : Int32)), .val (.int (16 : Int32))] []))
  refine Goes.pre (fun t kt => XS.iinc X5.here hx rfl (hb hby d5_14) rfl (l' := #[.val (.ref ta), .val (.int (-1 : Int32)), .val (.int (4 : Int32)), .val (.int (16 : Int32))]) rfl kt) ?_
  show Goes p e below s _ _ _ (T5.setTop (mkF m 17 #[.val (.ref ta), .val (.int (-1 : Int32)), .val (.int (4 : Int32)), .val (.int (16 : Int32))] []))
  refine Goes.pre (fun t kt => XS.goto X5.here hx rfl (pc0 := 17) (pc' := 5) rfl (hb hby d5_17) (by decide) (by decide) kt) ?_
  show Goes p e below s _ _ _ (T5.setTop (mkF m 5 #[.val (.ref ta), .val (.int (-1 : Int32)), .val (.int (4 : Int32)), .val (.int (16 : Int32))] []))
  refine Goes.pre (fun t kt => XS.iloadN X5.here hx rfl (hb hby d5_5) rfl kt) ?_
  show Goes p e below s _ _ _ (T5.setTop (mkF m 6 #[.val (.ref ta), .val (.int (-1 : Int32)), .val (.int (4 : Int32)), .val (.int (16 : Int32))] [(.int (4 : Int32))]))
  refine Goes.pre (fun t kt => XS.iloadN X5.here hx rfl (hb hby d5_6) rfl kt) ?_
  show Goes p e below s _ _ _ (T5.setTop (mkF m 7 #[.val (.ref ta), .val (.int (-1 : Int32)), .val (.int (4 : Int32)), .val (.int (16 : Int32))] [(.int (16 : Int32)), (.int (4 : Int32))]))
  refine Goes.pre (fun t kt => XS.icmpNo X5.here hx rfl (hb hby d5_7) rfl (Jvm.Free.XT.ii_ge_f ((by decide))) kt) ?_
  show Goes p e below s _ _ _ (T5.setTop (mkF m 10 #[.val (.ref ta), .val (.int (-1 : Int32)), .val (.int (4 : Int32)), .val (.int (16 : Int32))] []))
  refine Goes.pre (fun t kt => XS.aloadN X5.here hx rfl (hb hby d5_10) rfl rfl kt) ?_
  show Goes p e below s _ _ _ (T5.setTop (mkF m 11 #[.val (.ref ta), .val (.int (-1 : Int32)), .val (.int (4 : Int32)), .val (.int (16 : Int32))] [(.ref ta)]))
  refine Goes.pre (fun t kt => XS.iloadN X5.here hx rfl (hb hby d5_11) rfl kt) ?_
  show Goes p e below s _ _ _ (T5.setTop (mkF m 12 #[.val (.ref ta), .val (.int (-1 : Int32)), .val (.int (4 : Int32)), .val (.int (16 : Int32))] [(.int (4 : Int32)), (.ref ta)]))
  refine Goes.pre (fun t kt => XS.iloadN X5.here hx rfl (hb hby d5_12) rfl kt) ?_
  show Goes p e below s _ _ _ (T5.setTop (mkF m 13 #[.val (.ref ta), .val (.int (-1 : Int32)), .val (.int (4 : Int32)), .val (.int (16 : Int32))] [(.int (-1 : Int32)), (.int (4 : Int32)), (.ref ta)]))
  obtain ⟨cl6, Ar6, aq6, aS6, aN6, aH6, aG6⟩ := V5
  have hin6 : ¬ ((4 : Int32) < 0 ∨ cl6.slots.size ≤ ((4 : Int32)).toNatClampNeg) := inb_of aS6 ⟨by decide, by decide⟩
  obtain ⟨T6, h6, X6, e6, W6, st6⟩ := stI X5 hx hZ e5 Ar6 (j := (4 : Int32)) hin6 (g := (mkF m 13 #[.val (.ref ta), .val (.int (-1 : Int32)), .val (.int (4 : Int32)), .val (.int (16 : Int32))] [(.int (-1 : Int32)), (.int (4 : Int32)), (.ref ta)])) rfl rfl (hb hby d5_13)
  refine Goes.pre st6 ?_
  have Z6 : n0 ≤ h6.size := Nat.le_trans Z5 (Keep.of_wr W6).1
  have N6 := Fr.snoc X6 N5 pf_G_ta
  have K6 := K5.wr W6 (Or.inl (List.mem_of_getElem? (i := 0) rfl))
  have V6 : Arv Z h6 ta kk .int (16 : Int32) [(.int (-1 : Int32)), (.int (-1 : Int32)), (.int (-1 : Int32)), (.int (-1 : Int32)), (.int (-1 : Int32)), (.int (0 : Int32)), (.int (0 : Int32)), (.int (0 : Int32)), (.int (0 : Int32)), (.int (0 : Int32)), (.int (0 : Int32)), (.int (0 : Int32)), (.int (0 : Int32)), (.int (0 : Int32)), (.int (0 : Int32)), (.int (0 : Int32))] (.int (0 : Int32)) := Arv.set Ar6 aq6 aS6 aN6 aH6 aG6 rfl W6 4 rfl (Nat.le_of_ble_eq_true rfl)
  show Goes p e below s _ _ _ (T6.setTop (mkF m 14 #[.val (.ref ta), .val (.int (-1 : Int32)), .val (.int (4 : Int32)), .val (.int (16 : Int32))] []))
  refine Goes.pre (fun t kt => XS.iinc X6.here hx rfl (hb hby d5_14) rfl (l' := #[.val (.ref ta), .val (.int (-1 : Int32)), .val (.int (5 : Int32)), .val (.int (16 : Int32))]) rfl kt) ?_
  show Goes p e below s _ _ _ (T6.setTop (mkF m 17 #[.val (.ref ta), .val (.int (-1 : Int32)), .val (.int (5 : Int32)), .val (.int (16 : Int32))] []))
  refine Goes.pre (fun t kt => XS.goto X6.here hx rfl (pc0 := 17) (pc' := 5) rfl (hb hby d5_17) (by decide) (by decide) kt) ?_
  show Goes p e below s _ _ _ (T6.setTop (mkF m 5 #[.val (.ref ta), .val (.int (-1 : Int32)), .val (.int (5 : Int32)), .val (.int (16 : Int32))] []))
  refine Goes.pre (fun t kt => XS.iloadN X6.here hx rfl (hb hby d5_5) rfl kt) ?_
  show Goes p e below s _ _ _ (T6.setTop (mkF m 6 #[.val (.ref ta), .val (.int (-1 : Int32)), .val (.int (5 : Int32)), .val (.int (16 : Int32))] [(.int (5 : Int32))]))
  refine Goes.pre (fun t kt => XS.iloadN X6.here hx rfl (hb hby d5_6) rfl kt) ?_
  show Goes p e below s _ _ _ (T6.setTop (mkF m 7 #[.val (.ref ta), .val (.int (-1 : Int32)), .val (.int (5 : Int32)), .val (.int (16 : Int32))] [(.int (16 : Int32)), (.int (5 : Int32))]))
  refine Goes.pre (fun t kt => XS.icmpNo X6.here hx rfl (hb hby d5_7) rfl (Jvm.Free.XT.ii_ge_f ((by decide))) kt) ?_
  show Goes p e below s _ _ _ (T6.setTop (mkF m 10 #[.val (.ref ta), .val (.int (-1 : Int32)), .val (.int (5 : Int32)), .val (.int (16 : Int32))] []))
  refine Goes.pre (fun t kt => XS.aloadN X6.here hx rfl (hb hby d5_10) rfl rfl kt) ?_
  show Goes p e below s _ _ _ (T6.setTop (mkF m 11 #[.val (.ref ta), .val (.int (-1 : Int32)), .val (.int (5 : Int32)), .val (.int (16 : Int32))] [(.ref ta)]))
  refine Goes.pre (fun t kt => XS.iloadN X6.here hx rfl (hb hby d5_11) rfl kt) ?_
  show Goes p e below s _ _ _ (T6.setTop (mkF m 12 #[.val (.ref ta), .val (.int (-1 : Int32)), .val (.int (5 : Int32)), .val (.int (16 : Int32))] [(.int (5 : Int32)), (.ref ta)]))
  refine Goes.pre (fun t kt => XS.iloadN X6.here hx rfl (hb hby d5_12) rfl kt) ?_
  show Goes p e below s _ _ _ (T6.setTop (mkF m 13 #[.val (.ref ta), .val (.int (-1 : Int32)), .val (.int (5 : Int32)), .val (.int (16 : Int32))] [(.int (-1 : Int32)), (.int (5 : Int32)), (.ref ta)]))
  obtain ⟨cl7, Ar7, aq7, aS7, aN7, aH7, aG7⟩ := V6
  have hin7 : ¬ ((5 : Int32) < 0 ∨ cl7.slots.size ≤ ((5 : Int32)).toNatClampNeg) := inb_of aS7 ⟨by decide, by decide⟩
  obtain ⟨T7, h7, X7, e7, W7, st7⟩ := stI X6 hx hZ e6 Ar7 (j := (5 : Int32)) hin7 (g := (mkF m 13 #[.val (.ref ta), .val (.int (-1 : Int32)), .val (.int (5 : Int32)), .val (.int (16 : Int32))] [(.int (-1 : Int32)), (.int (5 : Int32)), (.ref ta)])) rfl rfl (hb hby d5_13)
  refine Goes.pre st7 ?_
  have Z7 : n0 ≤ h7.size := Nat.le_trans Z6 (Keep.of_wr W7).1
  have N7 := Fr.snoc X7 N6 pf_G_ta
  have K7 := K6.wr W7 (Or.inl (List.mem_of_getElem? (i := 0) rfl))
  have V7 : Arv Z h7 ta kk .int (16 : Int32) [(.int (-1 : Int32)), (.int (-1 : Int32)), (.int (-1 : Int32)), (.int (-1 : Int32)), (.int (-1 : Int32)), (.int (-1 : Int32)), (.int (0 : Int32)), (.int (0 : Int32)), (.int (0 : Int32)), (.int (0 : Int32)), (.int (0 : Int32)), (.int (0 : Int32)), (.int (0 : Int32)), (.int (0 : Int32)), (.int (0 : Int32)), (.int (0 : Int32))] (.int (0 : Int32)) := Arv.set Ar7 aq7 aS7 aN7 aH7 aG7 rfl W7 5 rfl (Nat.le_of_ble_eq_true rfl)
  show Goes p e below s _ _ _ (T7.setTop (mkF m 14 #[.val (.ref ta), .val (.int (-1 : Int32)), .val (.int (5 : Int32)), .val (.int (16 : Int32))] []))
  refine Goes.pre (fun t kt => XS.iinc X7.here hx rfl (hb hby d5_14) rfl (l' := #[.val (.ref ta), .val (.int (-1 : Int32)), .val (.int (6 : Int32)), .val (.int (16 : Int32))]) rfl kt) ?_
  show Goes p e below s _ _ _ (T7.setTop (mkF m 17 #[.val (.ref ta), .val (.int (-1 : Int32)), .val (.int (6 : Int32)), .val (.int (16 : Int32))] []))
  refine Goes.pre (fun t kt => XS.goto X7.here hx rfl (pc0 := 17) (pc' := 5) rfl (hb hby d5_17) (by decide) (by decide) kt) ?_
  show Goes p e below s _ _ _ (T7.setTop (mkF m 5 #[.val (.ref ta), .val (.int (-1 : Int32)), .val (.int (6 : Int32)), .val (.int (16 : Int32))] []))
  refine Goes.pre (fun t kt => XS.iloadN X7.here hx rfl (hb hby d5_5) rfl kt) ?_
  show Goes p e below s _ _ _ (T7.setTop (mkF m 6 #[.val (.ref ta), .val (.int (-1 : Int32)), .val (.int (6 : Int32)), .val (.int (16 : Int32))] [(.int (6 : Int32))]))
  refine Goes.pre (fun t kt => XS.iloadN X7.here hx rfl (hb hby d5_6) rfl kt) ?_
  show Goes p e below s _ _ _ (T7.setTop (mkF m 7 #[.val (.ref ta), .val (.int (-1 : Int32)), .val (.int (6 : Int32)), .val (.int (16 : Int32))] [(.int (16 : Int32)), (.int (6 : Int32))]))
  refine Goes.pre (fun t kt => XS.icmpNo X7.here hx rfl (hb hby d5_7) rfl (Jvm.Free.XT.ii_ge_f ((by decide))) kt) ?_
  show Goes p e below s _ _ _ (T7.setTop (mkF m 10 #[.val (.ref ta), .val (.int (-1 : Int32)), .val (.int (6 : Int32)), .val (.int (16 : Int32))] []))
  refine Goes.pre (fun t kt => XS.aloadN X7.here hx rfl (hb hby d5_10) rfl rfl kt) ?_
  show Goes p e below s _ _ _ (T7.setTop (mkF m 11 #[.val (.ref ta), .val (.int (-1 : Int32)), .val (.int (6 : Int32)), .val (.int (16 : Int32))] [(.ref ta)]))
  refine Goes.pre (fun t kt => XS.iloadN X7.here hx rfl (hb hby d5_11) rfl kt) ?_
  show Goes p e below s _ _ _ (T7.setTop (mkF m 12 #[.val (.ref ta), .val (.int (-1 : Int32)), .val (.int (6 : Int32)), .val (.int (16 : Int32))] [(.int (6 : Int32)), (.ref ta)]))
  refine Goes.pre (fun t kt => XS.iloadN X7.here hx rfl (hb hby d5_12) rfl kt) ?_
  show Goes p e below s _ _ _ (T7.setTop (mkF m 13 #[.val (.ref ta), .val (.int (-1 : Int32)), .val (.int (6 : Int32)), .val (.int (16 : Int32))] [(.int (-1 : Int32)), (.int (6 : Int32)), (.ref ta)]))
  obtain ⟨cl8, Ar8, aq8, aS8, aN8, aH8, aG8⟩ := V7
  have hin8 : ¬ ((6 : Int32) < 0 ∨ cl8.slots.size ≤ ((6 : Int32)).toNatClampNeg) := inb_of aS8 ⟨by decide, by decide⟩
  obtain ⟨T8, h8, X8, e8, W8, st8⟩ := stI X7 hx hZ e7 Ar8 (j := (6 : Int32)) hin8 (g := (mkF m 13 #[.val (.ref ta), .val (.int (-1 : Int32)), .val (.int (6 : Int32)), .val (.int (16 : Int32))] [(.int (-1 : Int32)), (.int (6 : Int32)), (.ref ta)])) rfl rfl (hb hby d5_13)
  refine Goes.pre st8 ?_
  have Z8 : n0 ≤ h8.size := Nat.le_trans Z7 (Keep.of_wr W8).1
  have N8 := Fr.snoc X8 N7 pf_G_ta
  have K8 := K7.wr W8 (Or.inl (List.mem_of_getElem? (i := 0) rfl))
  have V8 : Arv Z h8 ta kk .int (16 : Int32) [(.int (-1 : Int32)), (.int (-1 : Int32)), (.int (-1 : Int32)), (.int (-1 : Int32)), (.int (-1 : Int32)), (.int (-1 : Int32)), (.int (-1 : Int32)), (.int (0 : Int32)), (.int (0 : Int32)), (.int (0 : Int32)), (.int (0 : Int32)), (.int (0 : Int32)), (.int (0 : Int32)), (.int (0 : Int32)), (.int (0 : Int32)), (.int (0 : Int32))] (.int (0 : Int32)) := Arv.set Ar8 aq8 aS8 aN8 aH8 aG8 rfl W8 6 rfl (Nat.le_of_ble_eq_true rfl)
  show Goes p e below s _ _ _ (T8.setTop (mkF m 14 #[.val (.ref ta), .val (.int (-1 : Int32)), .val (.int (6 : Int32)), .val (.int (16 : Int32))] []))
  refine Goes.pre (fun t kt => XS.iinc X8.here hx rfl (hb hby d5_14) rfl (l' := #[.val (.ref ta), .val (.int (-1 : Int32)), .val (.int (7 : Int32)), .val (.int (16 : Int32))]) rfl kt) ?_
  show Goes p e below s _ _ _ (T8.setTop (mkF m 17 #[.val (.ref ta), .val (.int (-1 : Int32)), .val (.int (7 : Int32)), .val (.int (16 : Int32))] []))
  refine Goes.pre (fun t kt => XS.goto X8.here hx rfl (pc0 := 17) (pc' := 5) rfl (hb hby d5_17) (by decide) (by decide) kt) ?_
  show Goes p e below s _ _ _ (T8.setTop (mkF m 5 #[.val (.ref ta), .val (.int (-1 : Int32)), .val (.int (7 : Int32)), .val (.int (16 : Int32))] []))
  refine Goes.pre (fun t kt => XS.iloadN X8.here hx rfl (hb hby d5_5) rfl kt) ?_
  show Goes p e below s _ _ _ (T8.setTop (mkF m 6 #[.val (.ref ta), .val (.int (-1 : Int32)), .val (.int (7 : Int32)), .val (.int (16 : Int32))] [(.int (7 : Int32))]))
  refine Goes.pre (fun t kt => XS.iloadN X8.here hx rfl (hb hby d5_6) rfl kt) ?_
  show Goes p e below s _ _ _ (T8.setTop (mkF m 7 #[.val (.ref ta), .val (.int (-1 : Int32)), .val (.int (7 : Int32)), .val (.int (16 : Int32))] [(.int (16 : Int32)), (.int (7 : Int32))]))
  refine Goes.pre (fun t kt => XS.icmpNo X8.here hx rfl (hb hby d5_7) rfl (Jvm.Free.XT.ii_ge_f ((by decide))) kt) ?_
  show Goes p e below s _ _ _ (T8.setTop (mkF m 10 #[.val (.ref ta), .val (.int (-1 : Int32)), .val (.int (7 : Int32)), .val (.int (16 : Int32))] []))
  refine Goes.pre (fun t kt => XS.aloadN X8.here hx rfl (hb hby d5_10) rfl rfl kt) ?_
  show Goes p e below s _ _ _ (T8.setTop (mkF m 11 #[.val (.ref ta), .val (.int (-1 : Int32)), .val (.int (7 : Int32)), .val (.int (16 : Int32))] [(.ref ta)]))
  refine Goes.pre (fun t kt => XS.iloadN X8.here hx rfl (hb hby d5_11) rfl kt) ?_
  show Goes p e below s _ _ _ (T8.setTop (mkF m 12 #[.val (.ref ta), .val (.int (-1 : Int32)), .val (.int (7 : Int32)), .val (.int (16 : Int32))] [(.int (7 : Int32)), (.ref ta)]))
  refine Goes.pre (fun t kt => XS.iloadN X8.here hx rfl (hb hby d5_12) rfl kt) ?_
  show Goes p e below s _ _ _ (T8.setTop (mkF m 13 #[.val (.ref ta), .val (.int (-1 : Int32)), .val (.int (7 : Int32)), .val (.int (16 : Int32))] [(.int (-1 : Int32)), (.int (7 : Int32)), (.ref ta)]))
  obtain ⟨cl9, Ar9, aq9, aS9, aN9, aH9, aG9⟩ := V8
  have hin9 : ¬ ((7 : Int32) < 0 ∨ cl9.slots.size ≤ ((7 : Int32)).toNatClampNeg) := inb_of aS9 ⟨by decide, by decide⟩
  obtain ⟨T9, h9, X9, e9, W9, st9⟩ := stI X8 hx hZ e8 Ar9 (j := (7 : Int32)) hin9 (g := (mkF m 13 #[.val (.ref ta), .val (.int (-1 : Int32)), .val (.int (7 : Int32)), .val (.int (16 : Int32))] [(.int (-1 : Int32)), (.int (7 : Int32)), (.ref ta)])) rfl rfl (hb hby d5_13)
  refine Goes.pre st9 ?_
  have Z9 : n0 ≤ h9.size := Nat.le_trans Z8 (Keep.of_wr W9).1
  have N9 := Fr.snoc X9 N8 pf_G_ta
  have K9 := K8.wr W9 (Or.inl (List.mem_of_getElem? (i := 0) rfl))
  have V9 : Arv Z h9 ta kk .int (16 : Int32) [(.int (-1 : Int32)), (.int (-1 : Int32)), (.int (-1 : Int32)), (.int (-1 : Int32)), (.int (-1 : Int32)), (.int (-1 : Int32)), (.int (-1 : Int32)), (.int (-1 : Int32)), (.int (0 : Int32)), (.int (0 : Int32)), (.int (0 : Int32)), (.int (0 : Int32)), (.int (0 : Int32)), (.int (0 : Int32)), (.int (0 : Int32)), (.int (0 : Int32))] (.int (0 : Int32)) := Arv.set Ar9 aq9 aS9 aN9 aH9 aG9 rfl W9 7 rfl (Nat.le_of_ble_eq_true rfl)
  show Goes p e below s _ _ _ (T9.setTop (mkF m 14 #[.val (.ref ta), .val (.int (-1 : Int32)), .val (.int (7 : Int32)), .val (.int (16 : Int32))] []))
  refine Goes.pre (fun t kt => XS.iinc X9.here hx rfl (hb hby d5_14) rfl (l' := #[.val (.ref ta), .val (.int (-1 : Int32)), .val (.int (8 : Int32)), .val (.int (16 : Int32))]) rfl kt) ?_
  show Goes p e below s _ _ _ (T9.setTop (mkF m 17 #[.val (.ref ta), .val (.int (-1 : Int32)), .val (.int (8 : Int32)), .val (.int (16 : Int32))] []))
  refine Goes.pre (fun t kt => XS.goto X9.here hx rfl (pc0 := 17) (pc' := 5) rfl (hb hby d5_17) (by decide) (by decide) kt) ?_
  show Goes p e below s _ _ _ (T9.setTop (mkF m 5 #[.val (.ref ta), .val (.int (-1 : Int32)), .val (.int (8 : Int32)), .val (.int (16 : Int32))] []))
  refine Goes.pre (fun t kt => XS.iloadN X9.here hx rfl (hb hby d5_5) rfl kt) ?_
  show Goes p e below s _ _ _ (T9.setTop (mkF m 6 #[.val (.ref ta), .val (.int (-1 : Int32)), .val (.int (8 : Int32)), .val (.int (16 : Int32))] [(.int (8 : Int32))]))
  refine Goes.pre (fun t kt => XS.iloadN X9.here hx rfl (hb hby d5_6) rfl kt) ?_
  show Goes p e below s _ _ _ (T9.setTop (mkF m 7 #[.val (.ref ta), .val (.int (-1 : Int32)), .val (.int (8 : Int32)), .val (.int (16 : Int32))] [(.int (16 : Int32)), (.int (8 : Int32))]))
  refine Goes.pre (fun t kt => XS.icmpNo X9.here hx rfl (hb hby d5_7) rfl (Jvm.Free.XT.ii_ge_f ((by decide))) kt) ?_
  show Goes p e below s _ _ _ (T9.setTop (mkF m 10 #[.val (.ref ta), .val (.int (-1 : Int32)), .val (.int (8 : Int32)), .val (.int (16 : Int32))] []))
  refine Goes.pre (fun t kt => XS.aloadN X9.here hx rfl (hb hby d5_10) rfl rfl kt) ?_
  show Goes p e below s _ _ _ (T9.setTop (mkF m 11 #[.val (.ref ta), .val (.int (-1 : Int32)), .val (.int (8 : Int32)), .val (.int (16 : Int32))] [(.ref ta)]))
  refine Goes.pre (fun t kt => XS.iloadN X9.here hx rfl (hb hby d5_11) rfl kt) ?_
  show Goes p e below s _ _ _ (T9.setTop (mkF m 12 #[.val (.ref ta), .val (.int (-1 : Int32)), .val (.int (8 : Int32)), .val (.int (16 : Int32))] [(.int (8 : Int32)), (.ref ta)]))
  refine Goes.pre (fun t kt => XS.iloadN X9.here hx rfl (hb hby d5_12) rfl kt) ?_
  show Goes p e below s _ _ _ (T9.setTop (mkF m 13 #[.val (.ref ta), .val (.int (-1 : Int32)), .val (.int (8 : Int32)), .val (.int (16 : Int32))] [(.int (-1 : Int32)), (.int (8 : Int32)), (.ref ta)]))
  obtain ⟨cl10, Ar10, aq10, aS10, aN10, aH10, aG10⟩ := V9
  have hin10 : ¬ ((8 : Int32) < 0 ∨ cl10.slots.size ≤ ((8 : Int32)).toNatClampNeg) := inb_of aS10 ⟨by decide, by decide⟩
  obtain ⟨T10, h10, X10, e10, W10, st10⟩ := stI X9 hx hZ e9 Ar10 (j := (8 : Int32)) hin10 (g := (mkF m 13 #[.val (.ref ta), .val (.int (-1 : Int32)), .val (.int (8 : Int32)), .val (.int (16 : Int32))] [(.int (-1 : Int32)), (.int (8 : Int32)), (.ref ta)])) rfl rfl (hb hby d5_13)
  refine Goes.pre st10 ?_
  have Z10 : n0 ≤ h10.size := Nat.le_trans Z9 (Keep.of_wr W10).1
  have N10 := Fr.snoc X10 N9 pf_G_ta
  have K10 := K9.wr W10 (Or.inl (List.mem_of_getElem? (i := 0) rfl))
  have V10 : Arv Z h10 ta kk .int (16 : Int32) [(.int (-1 : Int32)), (.int (-1 : Int32)), (.int (-1 : Int32)), (.int (-1 : Int32)), (.int (-1 : Int32)), (.int (-1 : Int32)), (.int (-1 : Int32)), (.int (-1 : Int32)), (.int (-1 : Int32)), (.int (0 : Int32)), (.int (0 : Int32)), (.int (0 : Int32)), (.int (0 : Int32)), (.int (0 : Int32)), (.int (0 : Int32)), (.int (0 : Int32))] (.int (0 : Int32)) := Arv.set Ar10 aq10 aS10 aN10 aH10 aG10 rfl W10 8 rfl (Nat.le_of_ble_eq_true rfl)
  show Goes p e below s _ _ _ (T10.setTop (mkF m 14 #[.val (.ref ta), .val (.int (-1 : Int32)), .val (.int (8 : Int32)), .val (.int (16 : Int32))] []))
  refine Goes.pre (fun t kt => XS.iinc X10.here hx rfl (hb hby d5_14) rfl (l' := #[.val (.ref ta), .val (.int (-1 : Int32)), .val (.int (9 : Int32)), .val (.int (16 : Int32))]) rfl kt) ?_
  show Goes p e below s _ _ _ (T10.setTop (mkF m 17 #[.val (.ref ta), .val (.int (-1 : Int32)), .val (.int (9 : Int32)), .val (.int (16 : Int32))] []))
  refine Goes.pre (fun t kt => XS.goto X10.here hx rfl (pc0 := 17) (pc' := 5) rfl (hb hby d5_17) (by decide) (by decide) kt) ?_
  show Goes p e below s _ _ _ (T10.setTop (mkF m 5 #[.val (.ref ta), .val (.int (-1 : Int32)), .val (.int (9 : Int32)), .val (.int (16 : Int32))] []))
  refine Goes.pre (fun t kt => XS.iloadN X10.here hx rfl (hb hby d5_5) rfl kt) ?_
  show Goes p e below s _ _ _ (T10.setTop (mkF m 6 #[.val (.ref ta), .val (.int (-1 : Int32)), .val (.int (9 : Int32)), .val (.int (16 : Int32))] [(.int (9 : Int32))]))
  refine Goes.pre (fun t kt => XS.iloadN X10.here hx rfl (hb hby d5_6) rfl kt) ?_
  show Goes p e below s _ _ _ (T10.setTop (mkF m 7 #[.val (.ref ta), .val (.int (-1 : Int32)), .val (.int (9 : Int32)), .val (.int (16 : Int32))] [(.int (16 : Int32)), (.int (9 : Int32))]))
  refine Goes.pre (fun t kt => XS.icmpNo X10.here hx rfl (hb hby d5_7) rfl (Jvm.Free.XT.ii_ge_f ((by decide))) kt) ?_
  show Goes p e below s _ _ _ (T10.setTop (mkF m 10 #[.val (.ref ta), .val (.int (-1 : Int32)), .val (.int (9 : Int32)), .val (.int (16 : Int32))] []))
  refine Goes.pre (fun t kt => XS.aloadN X10.here hx rfl (hb hby d5_10) rfl rfl kt) ?_
  show Goes p e below s _ _ _ (T10.setTop (mkF m 11 #[.val (.ref ta), .val (.int (-1 : Int32)), .val (.int (9 : Int32)), .val (.int (16 : Int32))] [(.ref ta)]))
  refine Goes.pre (fun t kt => XS.iloadN X10.here hx rfl (hb hby d5_11) rfl kt) ?_
  show Goes p e below s _ _ _ (T10.setTop (mkF m 12 #[.val (.ref ta), .val (.int (-1 : Int32)), .val (.int (9 : Int32)), .val (.int (16 : Int32))] [(.int (9 : Int32)), (.ref ta)]))
  refine Goes.pre (fun t kt => XS.iloadN X10.here hx rfl (hb hby d5_12) rfl kt) ?_
  show Goes p e below s _ _ _ (T10.setTop (mkF m 13 #[.val (.ref ta), .val (.int (-1 : Int32)), .val (.int (9 : Int32)), .val (.int (16 : Int32))] [(.int (-1 : Int32)), (.int (9 : Int32)), (.ref ta)]))
  obtain ⟨cl11, Ar11, aq11, aS11, aN11, aH11, aG11⟩ := V10
  have hin11 : ¬ ((9 : Int32) < 0 ∨ cl11.slots.size ≤ ((9 : Int32)).toNatClampNeg) := inb_of aS11 ⟨by decide, by decide⟩
  obtain ⟨T11, h11, X11, e11, W11, st11⟩ := stI X10 hx hZ e10 Ar11 (j := (9 : Int32)) hin11 (g := (mkF m 13 #[.val (.ref ta), .val (.int (-1 : Int32)), .val (.int (9 : Int32)), .val (.int (16 : Int32))] [(.int (-1 : Int32)), (.int (9 : Int32)), (.ref ta)])) rfl rfl (hb hby d5_13)
  refine Goes.pre st11 ?_
  have Z11 : n0 ≤ h11.size := Nat.le_trans Z10 (Keep.of_wr W11).1
  have N11 := Fr.snoc X11 N10 pf_G_ta
  have K11 := K10.wr W11 (Or.inl (List.mem_of_getElem? (i := 0) rfl))
  have V11 : Arv Z h11 ta kk .int (16 : Int32) [(.int (-1 : Int32)), (.int (-1 : Int32)), (.int (-1 : Int32)), (.int (-1 : Int32)), (.int (-1 : Int32)), (.int (-1 : Int32)), (.int (-1 : Int32)), (.int (-1 : Int32)), (.int (-1 : Int32)), (.int (-1 : Int32)), (.int (0 : Int32)), (.int (0 : Int32)), (.int (0 : Int32)), (.int (0 : Int32)), (.int (0 : Int32)), (.int (0 : Int32))] (.int (0 : Int32)) := Arv.set Ar11 aq11 aS11 aN11 aH11 aG11 rfl W11 9 rfl (Nat.le_of_ble_eq_true rfl)
  show Goes p e below s _ _ _ (T11.setTop (mkF m 14 #[.val (.ref ta), .val (.int (-1 : Int32)), .val (.int (9 : Int32)), .val (.int (16 : Int32))] []))
  refine Goes.pre (fun t kt => XS.iinc X11.here hx rfl (hb hby d5_14) rfl (l' := #[.val (.ref ta), .val (.int (-1 : Int32)), .val (.int (10 : Int32)), .val (.int (16 : Int32))]) rfl kt) ?_
  show Goes p e below s _ _ _ (T11.setTop (mkF m 17 #[.val (.ref ta), .val (.int (-1 : Int32)), .val (.int (10 : Int32)), .val (.int (16 : Int32))] []))
  refine Goes.pre (fun t kt => XS.goto X11.here hx rfl (pc0 := 17) (pc' := 5) rfl (hb hby d5_17) (by decide) (by decide) kt) ?_
  show Goes p e below s _ _ _ (T11.setTop (mkF m 5 #[.val (.ref ta), .val (.int (-1 : Int32)), .val (.int (10 : Int32)), .val (.int (16 : Int32))] []))
  refine Goes.pre (fun t kt => XS.iloadN X11.here hx rfl (hb hby d5_5) rfl kt) ?_
  show Goes p e below s _ _ _ (T11.setTop (mkF m 6 #[.val (.ref ta), .val (.int (-1 : Int32)), .val (.int (10 : Int32)), .val (.int (16 : Int32))] [(.int (10 : Int32))]))
  refine Goes.pre (fun t kt => XS.iloadN X11.here hx rfl (hb hby d5_6) rfl kt) ?_
  show Goes p e below s _ _ _ (T11.setTop (mkF m 7 #[.val (.ref ta), .val (.int (-1 : Int32)), .val (.int (10 : Int32)), .val (.int (16 : Int32))] [(.int (16 : Int32)), (.int (10 : Int32))]))
  refine Goes.pre (fun t kt => XS.icmpNo X11.here hx rfl (hb hby d5_7) rfl (Jvm.Free.XT.ii_ge_f ((by decide))) kt) ?_
  show Goes p e below s _ _ _ (T11.setTop (mkF m 10 #[.val (.ref ta), .val (.int (-1 : Int32)), .val (.int (10 : Int32)), .val (.int (16 : Int32))] []))
  refine Goes.pre (fun t kt => XS.aloadN X11.here hx rfl (hb hby d5_10) rfl rfl kt) ?_
  show Goes p e below s _ _ _ (T11.setTop (mkF m 11 #[.val (.ref ta), .val (.int (-1 : Int32)), .val (.int (10 : Int32)), .val (.int (16 : Int32))] [(.ref ta)]))
  refine Goes.pre (fun t kt => XS.iloadN X11.here hx rfl (hb hby d5_11) rfl kt) ?_
  show Goes p e below s _ _ _ (T11.setTop (mkF m 12 #[.val (.ref ta), .val (.int (-1 : Int32)), .val (.int (10 : Int32)), .val (.int (16 : Int32))] [(.int (10 : Int32)), (.ref ta)]))
  refine Goes.pre (fun t kt => XS.iloadN X11.here hx rfl (hb hby d5_12) rfl kt) ?_
  show Goes p e below s _ _ _ (T11.setTop (mkF m 13 #[.val (.ref ta), .val (.int (-1 : Int32)), .val (.int (10 : Int32)), .val (.int (16 : Int32))] [(.int (-1 : Int32)), (.int (10 : Int32)), (.ref ta)]))
  obtain ⟨cl12, Ar12, aq12, aS12, aN12, aH12, aG12⟩ := V11
  have hin12 : ¬ ((10 : Int32) < 0 ∨ cl12.slots.size ≤ ((10 : Int32)).toNatClampNeg) := inb_of aS12 ⟨by decide, by decide⟩
  obtain ⟨T12, h12, X12, e12, W12, st12⟩ := stI X11 hx hZ e11 Ar12 (j := (10 : Int32)) hin12 (g := (mkF m 13 #[.val (.ref ta), .val (.int (-1 : Int32)), .val (.int (10 : Int32)), .val (.int (16 : Int32))] [(.int (-1 : Int32)), (.int (10 : Int32)), (.ref ta)])) rfl rfl (hb hby d5_13)
  refine Goes.pre st12 ?_
  have Z12 : n0 ≤ h12.size := Nat.le_trans Z11 (Keep.of_wr W12).1
  have N12 := Fr.snoc X12 N11 pf_G_ta
  have K12 := K11.wr W12 (Or.inl (List.mem_of_getElem? (i := 0) rfl))
  have V12 : Arv Z h12 ta kk .int (16 : Int32) [(.int (-1 : Int32)), (.int (-1 : Int32)), (.int (-1 : Int32)), (.int (-1 : Int32)), (.int (-1 : Int32)), (.int (-1 : Int32)), (.int (-1 : Int32)), (.int (-1 : Int32)), (.int (-1 : Int32)), (.int (-1 : Int32)), (.int (-1 : Int32)), (.int (0 : Int32)), (.int (0 : Int32)), (.int (0 : Int32)), (.int (0 : Int32)), (.int (0 : Int32))] (.int (0 : Int32)) := Arv.set Ar12 aq12 aS12 aN12 aH12 aG12 rfl W12 10 rfl (Nat.le_of_ble_eq_true rfl)
  show Goes p e below s _ _ _ (T12.setTop (mkF m 14 #[.val (.ref ta), .val (.int (-1 : Int32)), .val (.int (10 : Int32)), .val (.int (16 : Int32))] []))
  refine Goes.pre (fun t kt => XS.iinc X12.here hx rfl (hb hby d5_14) rfl (l' := #[.val (.ref ta), .val (.int (-1 : Int32)), .val (.int (11 : Int32)), .val (.int (16 : Int32))]) rfl kt) ?_
  show Goes p e below s _ _ _ (T12.setTop (mkF m 17 #[.val (.ref ta), .val (.int (-1 : Int32)), .val (.int (11 : Int32)), .val (.int (16 : Int32))] []))
  refine Goes.pre (fun t kt => XS.goto X12.here hx rfl (pc0 := 17) (pc' := 5) rfl (hb hby d5_17) (by decide) (by decide) kt) ?_
  show Goes p e below s _ _ _ (T12.setTop (mkF m 5 #[.val (.ref ta), .val (.int (-1 : Int32)), .val (.int (11 : Int32)), .val (.int (16 : Int32))] []))
  refine Goes.pre (fun t kt => XS.iloadN X12.here hx rfl (hb hby d5_5) rfl kt) ?_
  show Goes p e below s _ _ _ (T12.setTop (mkF m 6 #[.val (.ref ta), .val (.int (-1 : Int32)), .val (.int (11 : Int32)), .val (.int (16 : Int32))] [(.int (11 : Int32))]))
  refine Goes.pre (fun t kt => XS.iloadN X12.here hx rfl (hb hby d5_6) rfl kt) ?_
  show Goes p e below s _ _ _ (T12.setTop (mkF m 7 #[.val (.ref ta), .val (.int (-1 : Int32)), .val (.int (11 : Int32)), .val (.int (16 : Int32))] [(.int (16 : Int32)), (.int (11 : Int32))]))
  refine Goes.pre (fun t kt => XS.icmpNo X12.here hx rfl (hb hby d5_7) rfl (Jvm.Free.XT.ii_ge_f ((by decide))) kt) ?_
  show Goes p e below s _ _ _ (T12.setTop (mkF m 10 #[.val (.ref ta), .val (.int (-1 : Int32)), .val (.int (11 : Int32)), .val (.int (16 : Int32))] []))
  refine Goes.pre (fun t kt => XS.aloadN X12.here hx rfl (hb hby d5_10) rfl rfl kt) ?_
  show Goes p e below s _ _ _ (T12.setTop (mkF m 11 #[.val (.ref ta), .val (.int (-1 : Int32)), .val (.int (11 : Int32)), .val (.int (16 : Int32))] [(.ref ta)]))
  refine Goes.pre (fun t kt => XS.iloadN X12.here hx rfl (hb hby d5_11) rfl kt) ?_
  show Goes p e below s _ _ _ (T12.setTop (mkF m 12 #[.val (.ref ta), .val (.int (-1 : Int32)), .val (.int (11 : Int32)), .val (.int (16 : Int32))] [(.int (11 : Int32)), (.ref ta)]))
  refine Goes.pre (fun t kt => XS.iloadN X12.here hx rfl (hb hby d5_12) rfl kt) ?_
  show Goes p e below s _ _ _ (T12.setTop (mkF m 13 #[.val (.ref ta), .val (.int (-1 : Int32)), .val (.int (11 : Int32)), .val (.int (16 : Int32))] [(.int (-1 : Int32)), (.int (11 : Int32)), (.ref ta)]))
  obtain ⟨cl13, Ar13, aq13, aS13, aN13, aH13, aG13⟩ := V12
  have hin13 : ¬ ((11 : Int32) < 0 ∨ cl13.slots.size ≤ ((11 : Int32)).toNatClampNeg) := inb_of aS13 ⟨by decide, by decide⟩
  obtain ⟨T13, h13, X13, e13, W13, st13⟩ := stI X12 hx hZ e12 Ar13 (j := (11 : Int32)) hin13 (g := (mkF m 13 #[.val (.ref ta), .val (.int (-1 : Int32)), .val (.int (11 : Int32)), .val (.int (16 : Int32))] [(.int (-1 : Int32)), (.int (11 : Int32)), (.ref ta)])) rfl rfl (hb hby d5_13)
  refine Goes.pre st13 ?_
  have Z13 : n0 ≤ h13.size := Nat.le_trans Z12 (Keep.of_wr W13).1
  have N13 := Fr.snoc X13 N12 pf_G_ta
  have K13 := K12.wr W13 (Or.inl (List.mem_of_getElem? (i := 0) rfl))
  have V13 : Arv Z h13 ta kk .int (16 : Int32) [(.int (-1 : Int32)), (.int (-1 : Int32)), (.int (-1 : Int32)), (.int (-1 : Int32)), (.int (-1 : Int32)), (.int (-1 : Int32)), (.int (-1 : Int32)), (.int (-1 : Int32)), (.int (-1 : Int32)), (.int (-1 : Int32)), (.int (-1 : Int32)), (.int (-1 : Int32)), (.int (0 : Int32)), (.int (0 : Int32)), (.int (0 : Int32)), (.int (0 : Int32))] (.int (0 : Int32)) := Arv.set Ar13 aq13 aS13 aN13 aH13 aG13 rfl W13 11 rfl (Nat.le_of_ble_eq_true rfl)
  show Goes p e below s _ _ _ (T13.setTop (mkF m 14 #[.val (.ref ta), .val (.int (-1 : Int32)), .val (.int (11 : Int32)), .val (.int (16 : Int32))] []))
  refine Goes.pre (fun t kt => XS.iinc X13.here hx rfl (hb hby d5_14) rfl (l' := #[.val (.ref ta), .val (.int (-1 : Int32)), .val (.int (12 : Int32)), .val (.int (16 : Int32))]) rfl kt) ?_
  show Goes p e below s _ _ _ (T13.setTop (mkF m 17 #[.val (.ref ta), .val (.int (-1 : Int32)), .val (.int (12 : Int32)), .val (.int (16 : Int32))] []))
  refine Goes.pre (fun t kt => XS.goto X13.here hx rfl (pc0 := 17) (pc' := 5) rfl (hb hby d5_17) (by decide) (by decide) kt) ?_
  show Goes p e below s _ _ _ (T13.setTop (mkF m 5 #[.val (.ref ta), .val (.int (-1 : Int32)), .val (.int (12 : Int32)), .val (.int (16 : Int32))] []))
  refine Goes.pre (fun t kt => XS.iloadN X13.here hx rfl (hb hby d5_5) rfl kt) ?_
  show Goes p e below s _ _ _ (T13.setTop (mkF m 6 #[.val (.ref ta), .val (.int (-1 : Int32)), .val (.int (12 : Int32)), .val (.int (16 : Int32))] [(.int (12 : Int32))]))
  refine Goes.pre (fun t kt => XS.iloadN X13.here hx rfl (hb hby d5_6) rfl kt) ?_
  show Goes p e below s _ _ _ (T13.setTop (mkF m 7 #[.val (.ref ta), .val (.int (-1 : Int32)), .val (.int (12 : Int32)), .val (.int (16 : Int32))] [(.int (16 : Int32)), (.int (12 : Int32))]))
  refine Goes.pre (fun t kt => XS.icmpNo X13.here hx rfl (hb hby d5_7) rfl (Jvm.Free.XT.ii_ge_f ((by decide))) kt) ?_
  show Goes p e below s _ _ _ (T13.setTop (mkF m 10 #[.val (.ref ta), .val (.int (-1 : Int32)), .val (.int (12 : Int32)), .val (.int (16 : Int32))] []))
  refine Goes.pre (fun t kt => XS.aloadN X13.here hx rfl (hb hby d5_10) rfl rfl kt) ?_
  show Goes p e below s _ _ _ (T13.setTop (mkF m 11 #[.val (.ref ta), .val (.int (-1 : Int32)), .val (.int (12 : Int32)), .val (.int (16 : Int32))] [(.ref ta)]))
  refine Goes.pre (fun t kt => XS.iloadN X13.here hx rfl (hb hby d5_11) rfl kt) ?_
  show Goes p e below s _ _ _ (T13.setTop (mkF m 12 #[.val (.ref ta), .val (.int (-1 : Int32)), .val (.int (12 : Int32)), .val (.int (16 : Int32))] [(.int (12 : Int32)), (.ref ta)]))
  refine Goes.pre (fun t kt => XS.iloadN X13.here hx rfl (hb hby d5_12) rfl kt) ?_
  show Goes p e below s _ _ _ (T13.setTop (mkF m 13 #[.val (.ref ta), .val (.int (-1 : Int32)), .val (.int (12 : Int32)), .val (.int (16 : Int32))] [(.int (-1 : Int32)), (.int (12 : Int32)), (.ref ta)]))
  obtain ⟨cl14, Ar14, aq14, aS14, aN14, aH14, aG14⟩ := V13
  have hin14 : ¬ ((12 : Int32) < 0 ∨ cl14.slots.size ≤ ((12 : Int32)).toNatClampNeg) := inb_of aS14 ⟨by decide, by decide⟩
  obtain ⟨T14, h14, X14, e14, W14, st14⟩ := stI X13 hx hZ e13 Ar14 (j := (12 : Int32)) hin14 (g := (mkF m 13 #[.val (.ref ta), .val (.int (-1 : Int32)), .val (.int (12 : Int32)), .val (.int (16 : Int32))] [(.int (-1 : Int32)), (.int (12 : Int32)), (.ref ta)])) rfl rfl (hb hby d5_13)
  refine Goes.pre st14 ?_
  have Z14 : n0 ≤ h14.size := Nat.le_trans Z13 (Keep.of_wr W14).1
  have N14 := Fr.snoc X14 N13 pf_G_ta
  have K14 := K13.wr W14 (Or.inl (List.mem_of_getElem? (i := 0) rfl))
  have V14 : Arv Z h14 ta kk .int (16 : Int32) [(.int (-1 : Int32)), (.int (-1 : Int32)), (.int (-1 : Int32)), (.int (-1 : Int32)), (.int (-1 : Int32)), (.int (-1 : Int32)), (.int (-1 : Int32)), (.int (-1 : Int32)), (.int (-1 : Int32)), (.int (-1 : Int32)), (.int (-1 : Int32)), (.int (-1 : Int32)), (.int (-1 : Int32)), (.int (0 : Int32)), (.int (0 : Int32)), (.int (0 : Int32))] (.int (0 : Int32)) := Arv.set Ar14 aq14 aS14 aN14 aH14 aG14 rfl W14 12 rfl (Nat.le_of_ble_eq_true rfl)
  show Goes p e below s _ _ _ (T14.setTop (mkF m 14 #[.val (.ref ta), .val (.int (-1 : Int32)), .val (.int (12 : Int32)), .val (.int (16 : Int32))] []))
  refine Goes.pre (fun t kt => XS.iinc X14.here hx rfl (hb hby d5_14) rfl (l' := #[.val (.ref ta), .val (.int (-1 : Int32)), .val (.int (13 : Int32)), .val (.int (16 : Int32))]) rfl kt) ?_
  show Goes p e below s _ _ _ (T14.setTop (mkF m 17 #[.val (.ref ta), .val (.int (-1 : Int32)), .val (.int (13 : Int32)), .val (.int (16 : Int32))] []))
  refine Goes.pre (fun t kt => XS.goto X14.here hx rfl (pc0 := 17) (pc' := 5) rfl (hb hby d5_17) (by decide) (by decide) kt) ?_
  show Goes p e below s _ _ _ (T14.setTop (mkF m 5 #[.val (.ref ta), .val (.int (-1 : Int32)), .val (.int (13 : Int32)), .val (.int (16 : Int32))] []))
  refine Goes.pre (fun t kt => XS.iloadN X14.here hx rfl (hb hby d5_5) rfl kt) ?_
  show Goes p e below s _ _ _ (T14.setTop (mkF m 6 #[.val (.ref ta), .val (.int (-1 : Int32)), .val (.int (13 : Int32)), .val (.int (16 : Int32))] [(.int (13 : Int32))]))
  refine Goes.pre (fun t kt => XS.iloadN X14.here hx rfl (hb hby d5_6) rfl kt) ?_
  show Goes p e below s _ _ _ (T14.setTop (mkF m 7 #[.val (.ref ta), .val (.int (-1 : Int32)), .val (.int (13 : Int32)), .val (.int (16 : Int32))] [(.int (16 : Int32)), (.int (13 : Int32))]))
  refine Goes.pre (fun t kt => XS.icmpNo X14.here hx rfl (hb hby d5_7) rfl (Jvm.Free.XT.ii_ge_f ((by decide))) kt) ?_
  show Goes p e below s _ _ _ (T14.setTop (mkF m 10 #[.val (.ref ta), .val (.int (-1 : Int32)), .val (.int (13 : Int32)), .val (.int (16 : Int32))] []))
  refine Goes.pre (fun t kt => XS.aloadN X14.here hx rfl (hb hby d5_10) rfl rfl kt) ?_
  show Goes p e below s _ _ _ (T14.setTop (mkF m 11 #[.val (.ref ta), .val (.int (-1 : Int32)), .val (.int (13 : Int32)), .val (.int (16 : Int32))] [(.ref ta)]))
  refine Goes.pre (fun t kt => XS.iloadN X14.here hx rfl (hb hby d5_11) rfl kt) ?_
  show Goes p e below s _ _ _ (T14.setTop (mkF m 12 #[.val (.ref ta), .val (.int (-1 : Int32)), .val (.int (13 : Int32)), .val (.int (16 : Int32))] [(.int (13 : Int32)), (.ref ta)]))
  refine Goes.pre (fun t kt => XS.iloadN X14.here hx rfl (hb hby d5_12) rfl kt) ?_
  show Goes p e below s _ _ _ (T14.setTop (mkF m 13 #[.val (.ref ta), .val (.int (-1 : Int32)), .val (.int (13 : Int32)), .val (.int (16 : Int32))] [(.int (-1 : Int32)), (.int (13 : Int32)), (.ref ta)]))
  obtain ⟨cl15, Ar15, aq15, aS15, aN15, aH15, aG15⟩ := V14
  have hin15 : ¬ ((13 : Int32) < 0 ∨ cl15.slots.size ≤ ((13 : Int32)).toNatClampNeg) := inb_of aS15 ⟨by decide, by decide⟩
  obtain ⟨T15, h15, X15, e15, W15, st15⟩ := stI X14 hx hZ e14 Ar15 (j := (13 : Int32)) hin15 (g := (mkF m 13 #[.val (.ref ta), .val (.int (-1 : Int32)), .val (.int (13 : Int32)), .val (.int (16 : Int32))] [(.int (-1 : Int32)), (.int (13 : Int32)), (.ref ta)])) rfl rfl (hb hby d5_13)
  refine Goes.pre st15 ?_
  have Z15 : n0 ≤ h15.size := Nat.le_trans Z14 (Keep.of_wr W15).1
  have N15 := Fr.snoc X15 N14 pf_G_ta
  have K15 := K14.wr W15 (Or.inl (List.mem_of_getElem? (i := 0) rfl))
  have V15 : Arv Z h15 ta kk .int (16 : Int32) [(.int (-1 : Int32)), (.int (-1 : Int32)), (.int (-1 : Int32)), (.int (-1 : Int32)), (.int (-1 : Int32)), (.int (-1 : Int32)), (.int (-1 : Int32)), (.int (-1 : Int32)), (.int (-1 : Int32)), (.int (-1 : Int32)), (.int (-1 : Int32)), (.int (-1 : Int32)), (.int (-1 : Int32)), (.int (-1 : Int32)), (.int (0 : Int32)), (.int (0 : Int32))] (.int (0 : Int32)) := Arv.set Ar15 aq15 aS15 aN15 aH15 aG15 rfl W15 13 rfl (Nat.le_of_ble_eq_true rfl)
  show Goes p e below s _ _ _ (T15.setTop (mkF m 14 #[.val (.ref ta), .val (.int (-1 : Int32)), .val (.int (13 : Int32)), .val (.int (16 : Int32))] []))
  refine Goes.pre (fun t kt => XS.iinc X15.here hx rfl (hb hby d5_14) rfl (l' := #[.val (.ref ta), .val (.int (-1 : Int32)), .val (.int (14 : Int32)), .val (.int (16 : Int32))]) rfl kt) ?_
  show Goes p e below s _ _ _ (T15.setTop (mkF m 17 #[.val (.ref ta), .val (.int (-1 : Int32)), .val (.int (14 : Int32)), .val (.int (16 : Int32))] []))
  refine Goes.pre (fun t kt => XS.goto X15.here hx rfl (pc0 := 17) (pc' := 5) rfl (hb hby d5_17) (by decide) (by decide) kt) ?_
  show Goes p e below s _ _ _ (T15.setTop (mkF m 5 #[.val (.ref ta), .val (.int (-1 : Int32)), .val (.int (14 : Int32)), .val (.int (16 : Int32))] []))
  refine Goes.pre (fun t kt => XS.iloadN X15.here hx rfl (hb hby d5_5) rfl kt) ?_
  show Goes p e below s _ _ _ (T15.setTop (mkF m 6 #[.val (.ref ta), .val (.int (-1 : Int32)), .val (.int (14 : Int32)), .val (.int (16 : Int32))] [(.int (14 : Int32))]))
  refine Goes.pre (fun t kt => XS.iloadN X15.here hx rfl (hb hby d5_6) rfl kt) ?_
  show Goes p e below s _ _ _ (T15.setTop (mkF m 7 #[.val (.ref ta), .val (.int (-1 : Int32)), .val (.int (14 : Int32)), .val (.int (16 : Int32))] [(.int (16 : Int32)), (.int (14 : Int32))]))
  refine Goes.pre (fun t kt => XS.icmpNo X15.here hx rfl (hb hby d5_7) rfl (Jvm.Free.XT.ii_ge_f ((by decide))) kt) ?_
  show Goes p e below s _ _ _ (T15.setTop (mkF m 10 #[.val (.ref ta), .val (.int (-1 : Int32)), .val (.int (14 : Int32)), .val (.int (16 : Int32))] []))
  refine Goes.pre (fun t kt => XS.aloadN X15.here hx rfl (hb hby d5_10) rfl rfl kt) ?_
  show Goes p e below s _ _ _ (T15.setTop (mkF m 11 #[.val (.ref ta), .val (.int (-1 : Int32)), .val (.int (14 : Int32)), .val (.int (16 : Int32))] [(.ref ta)]))
  refine Goes.pre (fun t kt => XS.iloadN X15.here hx rfl (hb hby d5_11) rfl kt) ?_
  show Goes p e below s _ _ _ (T15.setTop (mkF m 12 #[.val (.ref ta), .val (.int (-1 : Int32)), .val (.int (14 : Int32)), .val (.int (16 : Int32))] [(.int (14 : Int32)), (.ref ta)]))
  refine Goes.pre (fun t kt => XS.iloadN X15.here hx rfl (hb hby d5_12) rfl kt) ?_
  show Goes p e below s _ _ _ (T15.setTop (mkF m 13 #[.val (.ref ta), .val (.int (-1 : Int32)), .val (.int (14 : Int32)), .val (.int (16 : Int32))] [(.int (-1 : Int32)), (.int (14 : Int32)), (.ref ta)]))
  obtain ⟨cl16, Ar16, aq16, aS16, aN16, aH16, aG16⟩ := V15
  have hin16 : ¬ ((14 : Int32) < 0 ∨ cl16.slots.size ≤ ((14 : Int32)).toNatClampNeg) := inb_of aS16 ⟨by decide, by decide⟩
  obtain ⟨T16, h16, X16, e16, W16, st16⟩ := stI X15 hx hZ e15 Ar16 (j := (14 : Int32)) hin16 (g := (mkF m 13 #[.val (.ref ta), .val (.int (-1 : Int32)), .val (.int (14 : Int32)), .val (.int (16 : Int32))] [(.int (-1 : Int32)), (.int (14 : Int32)), (.ref ta)])) rfl rfl (hb hby d5_13)
  refine Goes.pre st16 ?_
  have Z16 : n0 ≤ h16.size := Nat.le_trans Z15 (Keep.of_wr W16).1
  have N16 := Fr.snoc X16 N15 pf_G_ta
  have K16 := K15.wr W16 (Or.inl (List.mem_of_getElem? (i := 0) rfl))
  have V16 : Arv Z h16 ta kk .int (16 : Int32) [(.int (-1 : Int32)), (.int (-1 : Int32)), (.int (-1 : Int32)), (.int (-1 : Int32)), (.int (-1 : Int32)), (.int (-1 : Int32)), (.int (-1 : Int32)), (.int (-1 : Int32)), (.int (-1 : Int32)), (.int (-1 : Int32)), (.int (-1 : Int32)), (.int (-1 : Int32)), (.int (-1 : Int32)), (.int (-1 : Int32)), (.int (-1 : Int32)), (.int (0 : Int32))] (.int (0 : Int32)) := Arv.set Ar16 aq16 aS16 aN16 aH16 aG16 rfl W16 14 rfl (Nat.le_of_ble_eq_true rfl)
  show Goes p e below s _ _ _ (T16.setTop (mkF m 14 #[.val (.ref ta), .val (.int (-1 : Int32)), .val (.int (14 : Int32)), .val (.int (16 : Int32))] []))
  refine Goes.pre (fun t kt => XS.iinc X16.here hx rfl (hb hby d5_14) rfl (l' := #[.val (.ref ta), .val (.int (-1 : Int32)), .val (.int (15 : Int32)), .val (.int (16 : Int32))]) rfl kt) ?_
  show Goes p e below s _ _ _ (T16.setTop (mkF m 17 #[.val (.ref ta), .val (.int (-1 : Int32)), .val (.int (15 : Int32)), .val (.int (16 : Int32))] []))
  refine Goes.pre (fun t kt => XS.goto X16.here hx rfl (pc0 := 17) (pc' := 5) rfl (hb hby d5_17) (by decide) (by decide) kt) ?_
  show Goes p e below s _ _ _ (T16.setTop (mkF m 5 #[.val (.ref ta), .val (.int (-1 : Int32)), .val (.int (15 : Int32)), .val (.int (16 : Int32))] []))
  refine Goes.pre (fun t kt => XS.iloadN X16.here hx rfl (hb hby d5_5) rfl kt) ?_
  show Goes p e below s _ _ _ (T16.setTop (mkF m 6 #[.val (.ref ta), .val (.int (-1 : Int32)), .val (.int (15 : Int32)), .val (.int (16 : Int32))] [(.int (15 : Int32))]))
  refine Goes.pre (fun t kt => XS.iloadN X16.here hx rfl (hb hby d5_6) rfl kt) ?_
  show Goes p e below s _ _ _ (T16.setTop (mkF m 7 #[.val (.ref ta), .val (.int (-1 : Int32)), .val (.int (15 : Int32)), .val (.int (16 : Int32))] [(.int (16 : Int32)), (.int (15 : Int32))]))
  refine Goes.pre (fun t kt => XS.icmpNo X16.here hx rfl (hb hby d5_7) rfl (Jvm.Free.XT.ii_ge_f ((by decide))) kt) ?_
  show Goes p e below s _ _ _ (T16.setTop (mkF m 10 #[.val (.ref ta), .val (.int (-1 : Int32)), .val (.int (15 : Int32)), .val (.int (16 : Int32))] []))
  refine Goes.pre (fun t kt => XS.aloadN X16.here hx rfl (hb hby d5_10) rfl rfl kt) ?_
  show Goes p e below s _ _ _ (T16.setTop (mkF m 11 #[.val (.ref ta), .val (.int (-1 : Int32)), .val (.int (15 : Int32)), .val (.int (16 : Int32))] [(.ref ta)]))
  refine Goes.pre (fun t kt => XS.iloadN X16.here hx rfl (hb hby d5_11) rfl kt) ?_
  show Goes p e below s _ _ _ (T16.setTop (mkF m 12 #[.val (.ref ta), .val (.int (-1 : Int32)), .val (.int (15 : Int32)), .val (.int (16 : Int32))] [(.int (15 : Int32)), (.ref ta)]))
  refine Goes.pre (fun t kt => XS.iloadN X16.here hx rfl (hb hby d5_12) rfl kt) ?_
  show Goes p e below s _ _ _ (T16.setTop (mkF m 13 #[.val (.ref ta), .val (.int (-1 : Int32)), .val (.int (15 : Int32)), .val (.int (16 : Int32))] [(.int (-1 : Int32)), (.int (15 : Int32)), (.ref ta)]))
  obtain ⟨cl17, Ar17, aq17, aS17, aN17, aH17, aG17⟩ := V16
  have hin17 : ¬ ((15 : Int32) < 0 ∨ cl17.slots.size ≤ ((15 : Int32)).toNatClampNeg) := inb_of aS17 ⟨by decide, by decide⟩
  obtain ⟨T17, h17, X17, e17, W17, st17⟩ := stI X16 hx hZ e16 Ar17 (j := (15 : Int32)) hin17 (g := (mkF m 13 #[.val (.ref ta), .val (.int (-1 : Int32)), .val (.int (15 : Int32)), .val (.int (16 : Int32))] [(.int (-1 : Int32)), (.int (15 : Int32)), (.ref ta)])) rfl rfl (hb hby d5_13)
  refine Goes.pre st17 ?_
  have Z17 : n0 ≤ h17.size := Nat.le_trans Z16 (Keep.of_wr W17).1
  have N17 := Fr.snoc X17 N16 pf_G_ta
  have K17 := K16.wr W17 (Or.inl (List.mem_of_getElem? (i := 0) rfl))
  have V17 : Arv Z h17 ta kk .int (16 : Int32) [(.int (-1 : Int32)), (.int (-1 : Int32)), (.int (-1 : Int32)), (.int (-1 : Int32)), (.int (-1 : Int32)), (.int (-1 : Int32)), (.int (-1 : Int32)), (.int (-1 : Int32)), (.int (-1 : Int32)), (.int (-1 : Int32)), (.int (-1 : Int32)), (.int (-1 : Int32)), (.int (-1 : Int32)), (.int (-1 : Int32)), (.int (-1 : Int32)), (.int (-1 : Int32))] (.int (0 : Int32)) := Arv.set Ar17 aq17 aS17 aN17 aH17 aG17 rfl W17 15 rfl (Nat.le_of_ble_eq_true rfl)
  show Goes p e below s _ _ _ (T17.setTop (mkF m 14 #[.val (.ref ta), .val (.int (-1 : Int32)), .val (.int (15 : Int32)), .val (.int (16 : Int32))] []))
  refine Goes.pre (fun t kt => XS.iinc X17.here hx rfl (hb hby d5_14) rfl (l' := #[.val (.ref ta), .val (.int (-1 : Int32)), .val (.int (16 : Int32)), .val (.int (16 : Int32))]) rfl kt) ?_
  show Goes p e below s _ _ _ (T17.setTop (mkF m 17 #[.val (.ref ta), .val (.int (-1 : Int32)), .val (.int (16 : Int32)), .val (.int (16 : Int32))] []))
  refine Goes.pre (fun t kt => XS.goto X17.here hx rfl (pc0 := 17) (pc' := 5) rfl (hb hby d5_17) (by decide) (by decide) kt) ?_
  show Goes p e below s _ _ _ (T17.setTop (mkF m 5 #[.val (.ref ta), .val (.int (-1 : Int32)), .val (.int (16 : Int32)), .val (.int (16 : Int32))] []))
  refine Goes.pre (fun t kt => XS.iloadN X17.here hx rfl (hb hby d5_5) rfl kt) ?_
  show Goes p e below s _ _ _ (T17.setTop (mkF m 6 #[.val (.ref ta), .val (.int (-1 : Int32)), .val (.int (16 : Int32)), .val (.int (16 : Int32))] [(.int (16 : Int32))]))
  refine Goes.pre (fun t kt => XS.iloadN X17.here hx rfl (hb hby d5_6) rfl kt) ?_
  show Goes p e below s _ _ _ (T17.setTop (mkF m 7 #[.val (.ref ta), .val (.int (-1 : Int32)), .val (.int (16 : Int32)), .val (.int (16 : Int32))] [(.int (16 : Int32)), (.int (16 : Int32))]))
  refine Goes.pre (fun t kt => XS.icmpYes X17.here hx rfl (pc0 := 7) (pc' := 20) rfl (hb hby d5_7) rfl (Jvm.Free.XT.ii_ge_t ((by decide))) (by decide) (by decide) kt) ?_
  show Goes p e below s _ _ _ (T17.setTop (mkF m 20 #[.val (.ref ta), .val (.int (-1 : Int32)), .val (.int (16 : Int32)), .val (.int (16 : Int32))] []))
  refine Goes.ret X17 none (fun _ => rfl) (BodyLoose.notSynchronized Bd) (by decide) (by decide) (fun fs hr => X17.returnOut hx Bd.returns (hb hby d5_20) hr) ?_
  show Q_rmfill Z ta kk h0 n0 _ T17.heap _
  rw [e17]
  exact ⟨rfl, N17, K17, V17⟩
theorem d2_0 : decode prog_56_method_1_code 0 = .ok (.aload_n 0, 1) := by decide +kernel
theorem d2_1 : decode prog_56_method_1_code 1 = .ok (.invokespecial 1, 3) := by decide +kernel
theorem d2_4 : decode prog_56_method_1_code 4 = .ok (.aload_n 0, 1) := by decide +kernel
theorem d2_5 : decode prog_56_method_1_code 5 = .ok (.bipush 16, 2) := by decide +kernel
theorem d2_7 : decode prog_56_method_1_code 7 = .ok (.newarray .int, 2) := by decide +kernel
theorem d2_9 : decode prog_56_method_1_code 9 = .ok (.putfield 9, 3) := by decide +kernel
theorem d2_12 : decode prog_56_method_1_code 12 = .ok (.aload_n 0, 1) := by decide +kernel
theorem d2_13 : decode prog_56_method_1_code 13 = .ok (.bipush 32, 2) := by decide +kernel
theorem d2_15 : decode prog_56_method_1_code 15 = .ok (.bipush 16, 2) := by decide +kernel
theorem d2_17 : decode prog_56_method_1_code 17 = .ok (.invokestatic 15, 3) := by decide +kernel
theorem pd_2 : parseMethodDescriptor "(I)I" = some ⟨[.int], some .int⟩ := by decide +kernel
theorem d2_20 : decode prog_56_method_1_code 20 = .ok (.isub, 1) := by decide +kernel
theorem d2_21 : decode prog_56_method_1_code 21 = .ok (.putfield 19, 3) := by decide +kernel
theorem d2_24 : decode prog_56_method_1_code 24 = .ok (.aload_n 0, 1) := by decide +kernel
theorem d2_25 : decode prog_56_method_1_code 25 = .ok (.bipush 8, 2) := by decide +kernel
theorem d2_27 : decode prog_56_method_1_code 27 = .ok (.newarray .int, 2) := by decide +kernel
theorem d2_29 : decode prog_56_method_1_code 29 = .ok (.putfield 23, 3) := by decide +kernel
theorem d2_32 : decode prog_56_method_1_code 32 = .ok (.aload_n 0, 1) := by decide +kernel
theorem d2_33 : decode prog_56_method_1_code 33 = .ok (.bipush 8, 2) := by decide +kernel
theorem d2_35 : decode prog_56_method_1_code 35 = .ok (.newarray .double, 2) := by decide +kernel
theorem d2_37 : decode prog_56_method_1_code 37 = .ok (.putfield 26, 3) := by decide +kernel
theorem d2_40 : decode prog_56_method_1_code 40 = .ok (.aload_n 0, 1) := by decide +kernel
theorem d2_41 : decode prog_56_method_1_code 41 = .ok (.bipush 8, 2) := by decide +kernel
theorem d2_43 : decode prog_56_method_1_code 43 = .ok (.newarray .int, 2) := by decide +kernel
theorem d2_45 : decode prog_56_method_1_code 45 = .ok (.putfield 30, 3) := by decide +kernel
theorem d2_48 : decode prog_56_method_1_code 48 = .ok (.aload_n 0, 1) := by decide +kernel
theorem d2_49 : decode prog_56_method_1_code 49 = .ok (.iload_n 1, 1) := by decide +kernel
theorem d2_50 : decode prog_56_method_1_code 50 = .ok (.putfield 33, 3) := by decide +kernel
theorem d2_53 : decode prog_56_method_1_code 53 = .ok (.aload_n 0, 1) := by decide +kernel
theorem d2_54 : decode prog_56_method_1_code 54 = .ok (.getfield 9, 3) := by decide +kernel
theorem d2_57 : decode prog_56_method_1_code 57 = .ok (.iconst (-1), 1) := by decide +kernel
theorem d2_58 : decode prog_56_method_1_code 58 = .ok (.invokestatic 36, 3) := by decide +kernel
theorem pd_3 : parseMethodDescriptor "([II)V" = some ⟨[(.array .int), .int], none⟩ := by decide +kernel
theorem d2_61 : decode prog_56_method_1_code 61 = .ok (.return_, 1) := by decide +kernel
theorem pn_4 : plainName "com/example/nosograph/nosograph/ranking/DocumentSums" = true := by first | (simp [plainName, overriddenIn]; done) | decide +kernel
def Q_rminit (Z : State) (a1 : Addr) (nn : Int32) (h0 : Heap) (n0 : Nat) (v : Option Value) (h : Heap) (L : List Loc) : Prop := ∃ ta : Addr, ∃ da : Addr, ∃ sa : Addr, ∃ la : Addr, v = none ∧ Fr n0 L ∧ Keep h0 h [a1] ∧ (h0.size ≤ ta) ∧ (h0.size ≤ da) ∧ (h0.size ≤ sa) ∧ (h0.size ≤ la) ∧ (n0 ≤ ta) ∧ (n0 ≤ da) ∧ (n0 ≤ sa) ∧ (n0 ≤ la) ∧ (da ≠ ta) ∧ (sa ≠ ta) ∧ (sa ≠ da) ∧ (la ≠ ta) ∧ (la ≠ da) ∧ (la ≠ sa) ∧ (Fld Z h a1 "com/example/nosograph/nosograph/ranking/DocumentSums" "table" "[I" (.ref ta)) ∧ (Fld Z h a1 "com/example/nosograph/nosograph/ranking/DocumentSums" "shift" "I" (.int (28 : Int32))) ∧ (Fld Z h a1 "com/example/nosograph/nosograph/ranking/DocumentSums" "documents" "[I" (.ref da)) ∧ (Fld Z h a1 "com/example/nosograph/nosograph/ranking/DocumentSums" "sums" "[D" (.ref sa)) ∧ (Fld Z h a1 "com/example/nosograph/nosograph/ranking/DocumentSums" "slots" "[I" (.ref la)) ∧ (Fld Z h a1 "com/example/nosograph/nosograph/ranking/DocumentSums" "documentCount" "I" (.int nn)) ∧ (Fld Z h a1 "com/example/nosograph/nosograph/ranking/DocumentSums" "count" "I" (.int (0 : Int32))) ∧ (OwnI Z h ta (16 : Int32) (fun _ => -1)) ∧ (OwnI Z h da (8 : Int32) (fun _ => 0)) ∧ (OwnD Z h sa (8 : Int32) (fun _ => 0)) ∧ (OwnI Z h la (8 : Int32) (fun _ => 0))
theorem ef_rminit (m : MethodId) (a1 : Addr) (nn : Int32) : entryFrame m #[(.ref a1), (.int nn)] 2 = mkF m 0 #[.val (.ref a1), .val (.int nn)] [] := by first | (simp [entryFrame, mkF, argsToLocals, Value.category]; done) | rfl
set_option maxRecDepth 65536 in
set_option maxHeartbeats 40000000 in
theorem rminit (l : Launch) (Z : State) (a0 : Array Value) (hw : ∀ d ∈ tables_1, d.before a0 Z = true) (ws : List Jvm.Cond) (a1 : Addr) (nn : Int32) (h0 : Heap) (n0 : Nat) (Z0 : n0 ≤ h0.size) (pf_E_a1 : Exa Z h0 a1 "com/example/nosograph/nosograph/ranking/DocumentSums") (pf_G_a1 : n0 ≤ a1) (pf_F_a1_com_example_nosograph_nosograph_ranking_DocumentSums_table : Fld Z h0 a1 "com/example/nosograph/nosograph/ranking/DocumentSums" "table" "[I" .null) (pf_F_a1_com_example_nosograph_nosograph_ranking_DocumentSums_shift : Fld Z h0 a1 "com/example/nosograph/nosograph/ranking/DocumentSums" "shift" "I" (.int (0 : Int32))) (pf_F_a1_com_example_nosograph_nosograph_ranking_DocumentSums_documents : Fld Z h0 a1 "com/example/nosograph/nosograph/ranking/DocumentSums" "documents" "[I" .null) (pf_F_a1_com_example_nosograph_nosograph_ranking_DocumentSums_sums : Fld Z h0 a1 "com/example/nosograph/nosograph/ranking/DocumentSums" "sums" "[D" .null) (pf_F_a1_com_example_nosograph_nosograph_ranking_DocumentSums_slots : Fld Z h0 a1 "com/example/nosograph/nosograph/ranking/DocumentSums" "slots" "[I" .null) (pf_F_a1_com_example_nosograph_nosograph_ranking_DocumentSums_documentCount : Fld Z h0 a1 "com/example/nosograph/nosograph/ranking/DocumentSums" "documentCount" "I" (.int (0 : Int32))) (pf_F_a1_com_example_nosograph_nosograph_ranking_DocumentSums_count : Fld Z h0 a1 "com/example/nosograph/nosograph/ranking/DocumentSums" "count" "I" (.int (0 : Int32))) :
    MetFree l (⟨"com/example/nosograph/nosograph/ranking/DocumentSums", "<init>", "(I)V"⟩ : MethodName) (head1 (Jvm.Cond.code (⟨"com/example/nosograph/nosograph/ranking/DocumentSums", "<init>", "(I)V"⟩ : MethodName) prog_56_method_1_code 2 none :: ws) ({ frames := 1, cells := 4, slots := 40, locals := 15 } : Room)) (fun a U => a = #[(.ref a1), (.int nn)] ∧ Z.Warmed39 U.vm ∧ U.heap = h0) (fun _ _ _ _ _ => True) (fun _ U o U' => ∃ v L, o = .returned v ∧ Q_rminit Z a1 nn h0 n0 v U'.heap L ∧ FrameEnd U o U' L ({ frames := 1, cells := 4, slots := 40, locals := 15 } : Room).cells ({ frames := 1, cells := 4, slots := 40, locals := 15 } : Room).slots) := by
  refine MetFree.of_bodySF (plainFor_of_name pn_4) hisR ?_
  intro p e s m args below meth c s₁ Bd hml0 hP hK
  obtain ⟨rfl, hZ, hh⟩ := hP
  have hx := Bd.exec
  have hby := Bd.bytes
  have hml : c.maxLocals = 2 := hml0
  have hown : s.vm.findClass "com/example/nosograph/nosograph/ranking/DocumentSums" = some m.cls := findClass_of_methodNamed Bd.named
  have hnm := (name_of_methodNamed Bd.named Bd.method).1
  have X0 : Stand p l e ({ frames := 1, cells := 4, slots := 40, locals := 15 } : Room) s m #[(.ref a1), (.int nn)] below meth c s₁ [] 0 0 := Stand.of_body Bd
  have e0 : s₁.heap = h0 := by rw [← hh, Bd.state]; rfl
  have N0 := Fr.nil n0
  have K0 := Keep.refl h0 [a1]
  show Goes p e below s (Q_rminit Z a1 nn h0 n0) ({ frames := 1, cells := 4, slots := 40, locals := 15 } : Room).cells ({ frames := 1, cells := 4, slots := 40, locals := 15 } : Room).slots (s₁.setTop (entryFrame m #[(.ref a1), (.int nn)] 2))
  refine Goes.pre (fun t kt => castTop (ef_rminit m a1 nn) kt) ?_
  show Goes p e below s _ _ _ (s₁.setTop (mkF m 0 #[.val (.ref a1), .val (.int nn)] []))
  refine Goes.pre (fun t kt => XS.aloadN X0.here hx rfl (hb hby d2_0) rfl rfl kt) ?_
  show Goes p e below s _ _ _ (s₁.setTop (mkF m 1 #[.val (.ref a1), .val (.int nn)] [(.ref a1)]))
  obtain ⟨T1, X1, e1, st1⟩ := initO X0 hx hZ hown (hw _ (List.mem_of_getElem? (i := 11) rfl)) (hw _ (List.mem_of_getElem? (i := 12) rfl)) (hw _ (List.mem_of_getElem? (i := 13) rfl)) e0 (g := (mkF m 1 #[.val (.ref a1), .val (.int nn)] [(.ref a1)])) rfl (by rw [hml]; rfl) rfl (hb hby d2_1) (by decide) (W := 0) (by show 2 * 0 + _ ≤ _; exact Nat.le_of_eq rfl) (by decide)
  refine Goes.pre st1 ?_
  show Goes p e below s _ _ _ (T1.setTop (mkF m 4 #[.val (.ref a1), .val (.int nn)] []))
  refine Goes.pre (fun t kt => XS.aloadN X1.here hx rfl (hb hby d2_4) rfl rfl kt) ?_
  show Goes p e below s _ _ _ (T1.setTop (mkF m 5 #[.val (.ref a1), .val (.int nn)] [(.ref a1)]))
  refine Goes.pre (fun t kt => XS.bipush X1.here hx rfl (hb hby d2_5) kt) ?_
  show Goes p e below s _ _ _ (T1.setTop (mkF m 7 #[.val (.ref a1), .val (.int nn)] [(.int (16 : Int32)), (.ref a1)]))
  obtain ⟨T2, h2, k2, X2, e2, E2, A2, st2⟩ := newP X1 hx hZ (hw _ (List.mem_of_getElem? (i := 14) rfl)) e1 (g := (mkF m 7 #[.val (.ref a1), .val (.int nn)] [(.int (16 : Int32)), (.ref a1)])) rfl (hb hby d2_7) rfl (by decide) (cap := 16) (by decide) (by decide) (by decide) (by decide)
  obtain ⟨b2, g2⟩ : ∃ z, z = h0.size := ⟨_, rfl⟩
  rw [← g2] at A2 st2
  have lta1_2 : a1 < b2 := Nat.lt_of_lt_of_le pf_E_a1.lt (Nat.le_of_eq g2.symm)
  have gg2 : n0 ≤ b2 := Nat.le_trans Z0 (Nat.le_of_eq g2.symm)
  have sz2 : h0.size ≤ b2 := Nat.le_trans K0.1 (Nat.le_of_eq g2.symm)
  have Z2 : n0 ≤ h2.size := Nat.le_trans Z0 E2.1
  have K2 := K0.ext E2
  refine Goes.pre st2 ?_
  have V2 : Arv Z h2 b2 k2 .int (16 : Int32) [(.int (0 : Int32)), (.int (0 : Int32)), (.int (0 : Int32)), (.int (0 : Int32)), (.int (0 : Int32)), (.int (0 : Int32)), (.int (0 : Int32)), (.int (0 : Int32)), (.int (0 : Int32)), (.int (0 : Int32)), (.int (0 : Int32)), (.int (0 : Int32)), (.int (0 : Int32)), (.int (0 : Int32)), (.int (0 : Int32)), (.int (0 : Int32))] (.int (0 : Int32)) := (Arv.new A2 (by decide)).pad (pad_rep [] (.int (0 : Int32)) 16)
  show Goes p e below s _ _ _ (T2.setTop (mkF m 9 #[.val (.ref a1), .val (.int nn)] [(.ref b2), (.ref a1)]))
  have fc3 : Fld Z h2 a1 "com/example/nosograph/nosograph/ranking/DocumentSums" "table" "[I" .null := (pf_F_a1_com_example_nosograph_nosograph_ranking_DocumentSums_table.ext E2)
  have fc4 : Exa Z h2 a1 "com/example/nosograph/nosograph/ranking/DocumentSums" := (pf_E_a1.ext E2)
  obtain ⟨T5, h5, X5, e5, W5, st5⟩ := putF X2 hx hZ hown (host := "") (Or.inl (hw _ (List.mem_of_getElem? (i := 15) rfl))) Via.refl e2 fc3 fc4 (Or.inl (hw _ (List.mem_of_getElem? (i := 16) rfl))) (hw _ (List.mem_of_getElem? (i := 6) rfl)) (ty := (.array .int)) (by decide) rfl rfl (g := (mkF m 9 #[.val (.ref a1), .val (.int nn)] [(.ref b2), (.ref a1)])) rfl rfl (hb hby d2_9)
  refine Goes.pre st5 ?_
  have Z5 : n0 ≤ h5.size := Nat.le_trans Z2 (Keep.of_wr W5).1
  have N5 := Fr.snoc X5 N0 pf_G_a1
  have K5 := K2.wr W5 (Or.inl (List.mem_of_getElem? (i := 0) rfl))
  have Fw5 : Fld Z h5 a1 "com/example/nosograph/nosograph/ranking/DocumentSums" "table" "[I" (.ref b2) := fc3.same W5
  show Goes p e below s _ _ _ (T5.setTop (mkF m 12 #[.val (.ref a1), .val (.int nn)] []))
  refine Goes.pre (fun t kt => XS.aloadN X5.here hx rfl (hb hby d2_12) rfl rfl kt) ?_
  show Goes p e below s _ _ _ (T5.setTop (mkF m 13 #[.val (.ref a1), .val (.int nn)] [(.ref a1)]))
  refine Goes.pre (fun t kt => XS.bipush X5.here hx rfl (hb hby d2_13) kt) ?_
  show Goes p e below s _ _ _ (T5.setTop (mkF m 15 #[.val (.ref a1), .val (.int nn)] [(.int (32 : Int32)), (.ref a1)]))
  refine Goes.pre (fun t kt => XS.bipush X5.here hx rfl (hb hby d2_15) kt) ?_
  show Goes p e below s _ _ _ (T5.setTop (mkF m 17 #[.val (.ref a1), .val (.int nn)] [(.int (16 : Int32)), (.int (32 : Int32)), (.ref a1)]))
  obtain ⟨_, _, ⟨T6, L6, k6, n6⟩, -, X6, ⟨Lc6, hQ6, l6, y6, z6⟩, st6⟩ := Jvm.LawKit.callS X5 hx (y := (⟨"java/lang/Integer", "numberOfTrailingZeros", "(I)I"⟩ : MethodName)) hown (mvT hZ (hw _ (List.mem_of_getElem? (i := 17) rfl))) (mvT hZ (hw _ (List.mem_of_getElem? (i := 18) rfl))) (mvT hZ (hw _ (List.mem_of_getElem? (i := 19) rfl))) (mvT hZ (hw _ (List.mem_of_getElem? (i := 20) rfl))) (by decide) (backOf (W := 2) (rmntz l Z a0 hw []  h5 n0 Z5 ) hZ (hw _ (List.mem_of_getElem? (i := 20) rfl)) (hw _ (List.mem_of_getElem? (i := 19) rfl)) (by decide) (by decide)) (g := (mkF m 17 #[.val (.ref a1), .val (.int nn)] [(.int (16 : Int32)), (.int (32 : Int32)), (.ref a1)])) rfl (by rw [hml]; rfl) (argsL := [(.int (16 : Int32))]) (rest := [(.int (32 : Int32)), (.ref a1)]) (lenOf pd_2 rfl) rfl (by show 2 * 0 + _ ≤ _; exact Nat.le_of_eq rfl) (hb hby d2_17) (fun _ _ => ⟨rfl, e5, (by decide : 1 + 0 ≤ _), (by decide : 16 + 0 ≤ _)⟩)
  dsimp only [Pt.U, Pt.locs, Pt.cells, Pt.slots] at X6 l6 y6 z6 st6 hQ6
  subst l6 y6 z6
  obtain ⟨rfl, Nq6, eq6⟩ := hQ6
  refine Goes.pre st6 ?_
  have N6 := Fr.app N5 Nq6
  show Goes p e below s _ _ _ (T6.setTop (mkF m 20 #[.val (.ref a1), .val (.int nn)] [(.int (4 : Int32)), (.int (32 : Int32)), (.ref a1)]))
  refine Goes.pre (fun t kt => XS.isub X6.here hx rfl (hb hby d2_20) rfl kt) ?_
  show Goes p e below s _ _ _ (T6.setTop (mkF m 21 #[.val (.ref a1), .val (.int nn)] [(.int (28 : Int32)), (.ref a1)]))
  have fc7 : Fld Z h5 a1 "com/example/nosograph/nosograph/ranking/DocumentSums" "shift" "I" (.int (0 : Int32)) := ((pf_F_a1_com_example_nosograph_nosograph_ranking_DocumentSums_shift.ext E2).other W5 (Or.inr (slot_ne (Or.inl (hw _ (List.mem_of_getElem? (i := 23) rfl))) (Or.inl (hw _ (List.mem_of_getElem? (i := 16) rfl))) (by decide) (t := .int) (t' := (.array .int)) (by decide) (by decide))))
  have fc8 : Exa Z h5 a1 "com/example/nosograph/nosograph/ranking/DocumentSums" := (fc4.wr W5)
  obtain ⟨T9, h9, X9, e9, W9, st9⟩ := putF X6 hx hZ hown (host := "") (Or.inl (hw _ (List.mem_of_getElem? (i := 22) rfl))) Via.refl eq6 fc7 fc8 (Or.inl (hw _ (List.mem_of_getElem? (i := 23) rfl))) (hw _ (List.mem_of_getElem? (i := 6) rfl)) (ty := .int) (by decide) rfl rfl (g := (mkF m 21 #[.val (.ref a1), .val (.int nn)] [(.int (28 : Int32)), (.ref a1)])) rfl rfl (hb hby d2_21)
  refine Goes.pre st9 ?_
  have Z9 : n0 ≤ h9.size := Nat.le_trans Z5 (Keep.of_wr W9).1
  have N9 := Fr.snoc X9 N6 pf_G_a1
  have K9 := K5.wr W9 (Or.inl (List.mem_of_getElem? (i := 0) rfl))
  have Fw9 : Fld Z h9 a1 "com/example/nosograph/nosograph/ranking/DocumentSums" "shift" "I" (.int (28 : Int32)) := fc7.same W9
  show Goes p e below s _ _ _ (T9.setTop (mkF m 24 #[.val (.ref a1), .val (.int nn)] []))
  refine Goes.pre (fun t kt => XS.aloadN X9.here hx rfl (hb hby d2_24) rfl rfl kt) ?_
  show Goes p e below s _ _ _ (T9.setTop (mkF m 25 #[.val (.ref a1), .val (.int nn)] [(.ref a1)]))
  refine Goes.pre (fun t kt => XS.bipush X9.here hx rfl (hb hby d2_25) kt) ?_
  show Goes p e below s _ _ _ (T9.setTop (mkF m 27 #[.val (.ref a1), .val (.int nn)] [(.int (8 : Int32)), (.ref a1)]))
  obtain ⟨T10, h10, k10, X10, e10, E10, A10, st10⟩ := newP X9 hx hZ (hw _ (List.mem_of_getElem? (i := 14) rfl)) e9 (g := (mkF m 27 #[.val (.ref a1), .val (.int nn)] [(.int (8 : Int32)), (.ref a1)])) rfl (hb hby d2_27) rfl (by decide) (cap := 8) (by decide) (by decide) (by decide) (by decide)
  obtain ⟨b10, g10⟩ : ∃ z, z = h9.size := ⟨_, rfl⟩
  rw [← g10] at A10 st10
  have fc11 : Exa Z h9 a1 "com/example/nosograph/nosograph/ranking/DocumentSums" := (fc8.wr W9)
  have lta1_10 : a1 < b10 := Nat.lt_of_lt_of_le fc11.lt (Nat.le_of_eq g10.symm)
  have fc12 : Arv Z h9 b2 k2 .int (16 : Int32) [(.int (0 : Int32)), (.int (0 : Int32)), (.int (0 : Int32)), (.int (0 : Int32)), (.int (0 : Int32)), (.int (0 : Int32)), (.int (0 : Int32)), (.int (0 : Int32)), (.int (0 : Int32)), (.int (0 : Int32)), (.int (0 : Int32)), (.int (0 : Int32)), (.int (0 : Int32)), (.int (0 : Int32)), (.int (0 : Int32)), (.int (0 : Int32))] (.int (0 : Int32)) := ((V2.other W5 (Nat.ne_of_gt lta1_2)).other W9 (Nat.ne_of_gt lta1_2))
  have ltb2_10 : b2 < b10 := Nat.lt_of_lt_of_le fc12.lt (Nat.le_of_eq g10.symm)
  have gg10 : n0 ≤ b10 := Nat.le_trans Z9 (Nat.le_of_eq g10.symm)
  have sz10 : h0.size ≤ b10 := Nat.le_trans K9.1 (Nat.le_of_eq g10.symm)
  have Z10 : n0 ≤ h10.size := Nat.le_trans Z9 E10.1
  have K10 := K9.ext E10
  refine Goes.pre st10 ?_
  have V10 : Arv Z h10 b10 k10 .int (8 : Int32) [(.int (0 : Int32)), (.int (0 : Int32)), (.int (0 : Int32)), (.int (0 : Int32)), (.int (0 : Int32)), (.int (0 : Int32)), (.int (0 : Int32)), (.int (0 : Int32))] (.int (0 : Int32)) := (Arv.new A10 (by decide)).pad (pad_rep [] (.int (0 : Int32)) 8)
  show Goes p e below s _ _ _ (T10.setTop (mkF m 29 #[.val (.ref a1), .val (.int nn)] [(.ref b10), (.ref a1)]))
  have fc13 : Fld Z h10 a1 "com/example/nosograph/nosograph/ranking/DocumentSums" "documents" "[I" .null := ((((pf_F_a1_com_example_nosograph_nosograph_ranking_DocumentSums_documents.ext E2).other W5 (Or.inr (slot_ne (Or.inl (hw _ (List.mem_of_getElem? (i := 25) rfl))) (Or.inl (hw _ (List.mem_of_getElem? (i := 16) rfl))) (by decide) (t := (.array .int)) (t' := (.array .int)) (by decide) (by decide)))).other W9 (Or.inr (slot_ne (Or.inl (hw _ (List.mem_of_getElem? (i := 25) rfl))) (Or.inl (hw _ (List.mem_of_getElem? (i := 23) rfl))) (by decide) (t := (.array .int)) (t' := .int) (by decide) (by decide)))).ext E10)
  have fc14 : Exa Z h10 a1 "com/example/nosograph/nosograph/ranking/DocumentSums" := (fc11.ext E10)
  obtain ⟨T15, h15, X15, e15, W15, st15⟩ := putF X10 hx hZ hown (host := "") (Or.inl (hw _ (List.mem_of_getElem? (i := 24) rfl))) Via.refl e10 fc13 fc14 (Or.inl (hw _ (List.mem_of_getElem? (i := 25) rfl))) (hw _ (List.mem_of_getElem? (i := 6) rfl)) (ty := (.array .int)) (by decide) rfl rfl (g := (mkF m 29 #[.val (.ref a1), .val (.int nn)] [(.ref b10), (.ref a1)])) rfl rfl (hb hby d2_29)
  refine Goes.pre st15 ?_
  have Z15 : n0 ≤ h15.size := Nat.le_trans Z10 (Keep.of_wr W15).1
  have N15 := Fr.snoc X15 N9 pf_G_a1
  have K15 := K10.wr W15 (Or.inl (List.mem_of_getElem? (i := 0) rfl))
  have Fw15 : Fld Z h15 a1 "com/example/nosograph/nosograph/ranking/DocumentSums" "documents" "[I" (.ref b10) := fc13.same W15
  show Goes p e below s _ _ _ (T15.setTop (mkF m 32 #[.val (.ref a1), .val (.int nn)] []))
  refine Goes.pre (fun t kt => XS.aloadN X15.here hx rfl (hb hby d2_32) rfl rfl kt) ?_
  show Goes p e below s _ _ _ (T15.setTop (mkF m 33 #[.val (.ref a1), .val (.int nn)] [(.ref a1)]))
  refine Goes.pre (fun t kt => XS.bipush X15.here hx rfl (hb hby d2_33) kt) ?_
  show Goes p e below s _ _ _ (T15.setTop (mkF m 35 #[.val (.ref a1), .val (.int nn)] [(.int (8 : Int32)), (.ref a1)]))
  obtain ⟨T16, h16, k16, X16, e16, E16, A16, st16⟩ := newP X15 hx hZ (hw _ (List.mem_of_getElem? (i := 26) rfl)) e15 (g := (mkF m 35 #[.val (.ref a1), .val (.int nn)] [(.int (8 : Int32)), (.ref a1)])) rfl (hb hby d2_35) rfl (by decide) (cap := 8) (by decide) (by decide) (by decide) (by decide)
  obtain ⟨b16, g16⟩ : ∃ z, z = h15.size := ⟨_, rfl⟩
  rw [← g16] at A16 st16
  have fc17 : Exa Z h15 a1 "com/example/nosograph/nosograph/ranking/DocumentSums" := (fc14.wr W15)
  have lta1_16 : a1 < b16 := Nat.lt_of_lt_of_le fc17.lt (Nat.le_of_eq g16.symm)
  have fc18 : Arv Z h15 b2 k2 .int (16 : Int32) [(.int (0 : Int32)), (.int (0 : Int32)), (.int (0 : Int32)), (.int (0 : Int32)), (.int (0 : Int32)), (.int (0 : Int32)), (.int (0 : Int32)), (.int (0 : Int32)), (.int (0 : Int32)), (.int (0 : Int32)), (.int (0 : Int32)), (.int (0 : Int32)), (.int (0 : Int32)), (.int (0 : Int32)), (.int (0 : Int32)), (.int (0 : Int32))] (.int (0 : Int32)) := ((fc12.ext E10).other W15 (Nat.ne_of_gt lta1_2))
  have ltb2_16 : b2 < b16 := Nat.lt_of_lt_of_le fc18.lt (Nat.le_of_eq g16.symm)
  have fc19 : Arv Z h15 b10 k10 .int (8 : Int32) [(.int (0 : Int32)), (.int (0 : Int32)), (.int (0 : Int32)), (.int (0 : Int32)), (.int (0 : Int32)), (.int (0 : Int32)), (.int (0 : Int32)), (.int (0 : Int32))] (.int (0 : Int32)) := (V10.other W15 (Nat.ne_of_gt lta1_10))
  have ltb10_16 : b10 < b16 := Nat.lt_of_lt_of_le fc19.lt (Nat.le_of_eq g16.symm)
  have gg16 : n0 ≤ b16 := Nat.le_trans Z15 (Nat.le_of_eq g16.symm)
  have sz16 : h0.size ≤ b16 := Nat.le_trans K15.1 (Nat.le_of_eq g16.symm)
  have Z16 : n0 ≤ h16.size := Nat.le_trans Z15 E16.1
  have K16 := K15.ext E16
  refine Goes.pre st16 ?_
  have V16 : Arv Z h16 b16 k16 .double (8 : Int32) [(.double (0 : UInt64)), (.double (0 : UInt64)), (.double (0 : UInt64)), (.double (0 : UInt64)), (.double (0 : UInt64)), (.double (0 : UInt64)), (.double (0 : UInt64)), (.double (0 : UInt64))] (.double (0 : UInt64)) := (Arv.new A16 (by decide)).pad (pad_rep [] (.double (0 : UInt64)) 8)
  show Goes p e below s _ _ _ (T16.setTop (mkF m 37 #[.val (.ref a1), .val (.int nn)] [(.ref b16), (.ref a1)]))
  have fc20 : Fld Z h16 a1 "com/example/nosograph/nosograph/ranking/DocumentSums" "sums" "[D" .null := ((((((pf_F_a1_com_example_nosograph_nosograph_ranking_DocumentSums_sums.ext E2).other W5 (Or.inr (slot_ne (Or.inl (hw _ (List.mem_of_getElem? (i := 28) rfl))) (Or.inl (hw _ (List.mem_of_getElem? (i := 16) rfl))) (by decide) (t := (.array .double)) (t' := (.array .int)) (by decide) (by decide)))).other W9 (Or.inr (slot_ne (Or.inl (hw _ (List.mem_of_getElem? (i := 28) rfl))) (Or.inl (hw _ (List.mem_of_getElem? (i := 23) rfl))) (by decide) (t := (.array .double)) (t' := .int) (by decide) (by decide)))).ext E10).other W15 (Or.inr (slot_ne (Or.inl (hw _ (List.mem_of_getElem? (i := 28) rfl))) (Or.inl (hw _ (List.mem_of_getElem? (i := 25) rfl))) (by decide) (t := (.array .double)) (t' := (.array .int)) (by decide) (by decide)))).ext E16)
  have fc21 : Exa Z h16 a1 "com/example/nosograph/nosograph/ranking/DocumentSums" := (fc17.ext E16)
  obtain ⟨T22, h22, X22, e22, W22, st22⟩ := putF X16 hx hZ hown (host := "") (Or.inl (hw _ (List.mem_of_getElem? (i := 27) rfl))) Via.refl e16 fc20 fc21 (Or.inl (hw _ (List.mem_of_getElem? (i := 28) rfl))) (hw _ (List.mem_of_getElem? (i := 6) rfl)) (ty := (.array .double)) (by decide) rfl rfl (g := (mkF m 37 #[.val (.ref a1), .val (.int nn)] [(.ref b16), (.ref a1)])) rfl rfl (hb hby d2_37)
  refine Goes.pre st22 ?_
  have Z22 : n0 ≤ h22.size := Nat.le_trans Z16 (Keep.of_wr W22).1
  have N22 := Fr.snoc X22 N15 pf_G_a1
  have K22 := K16.wr W22 (Or.inl (List.mem_of_getElem? (i := 0) rfl))
  have Fw22 : Fld Z h22 a1 "com/example/nosograph/nosograph/ranking/DocumentSums" "sums" "[D" (.ref b16) := fc20.same W22
  show Goes p e below s _ _ _ (T22.setTop (mkF m 40 #[.val (.ref a1), .val (.int nn)] []))
  refine Goes.pre (fun t kt => XS.aloadN X22.here hx rfl (hb hby d2_40) rfl rfl kt) ?_
  show Goes p e below s _ _ _ (T22.setTop (mkF m 41 #[.val (.ref a1), .val (.int nn)] [(.ref a1)]))
  refine Goes.pre (fun t kt => XS.bipush X22.here hx rfl (hb hby d2_41) kt) ?_
  show Goes p e below s _ _ _ (T22.setTop (mkF m 43 #[.val (.ref a1), .val (.int nn)] [(.int (8 : Int32)), (.ref a1)]))
  obtain ⟨T23, h23, k23, X23, e23, E23, A23, st23⟩ := newP X22 hx hZ (hw _ (List.mem_of_getElem? (i := 14) rfl)) e22 (g := (mkF m 43 #[.val (.ref a1), .val (.int nn)] [(.int (8 : Int32)), (.ref a1)])) rfl (hb hby d2_43) rfl (by decide) (cap := 8) (by decide) (by decide) (by decide) (by decide)
  obtain ⟨b23, g23⟩ : ∃ z, z = h22.size := ⟨_, rfl⟩
  rw [← g23] at A23 st23
  have fc24 : Exa Z h22 a1 "com/example/nosograph/nosograph/ranking/DocumentSums" := (fc21.wr W22)
  have lta1_23 : a1 < b23 := Nat.lt_of_lt_of_le fc24.lt (Nat.le_of_eq g23.symm)
  have fc25 : Arv Z h22 b2 k2 .int (16 : Int32) [(.int (0 : Int32)), (.int (0 : Int32)), (.int (0 : Int32)), (.int (0 : Int32)), (.int (0 : Int32)), (.int (0 : Int32)), (.int (0 : Int32)), (.int (0 : Int32)), (.int (0 : Int32)), (.int (0 : Int32)), (.int (0 : Int32)), (.int (0 : Int32)), (.int (0 : Int32)), (.int (0 : Int32)), (.int (0 : Int32)), (.int (0 : Int32))] (.int (0 : Int32)) := ((fc18.ext E16).other W22 (Nat.ne_of_gt lta1_2))
  have ltb2_23 : b2 < b23 := Nat.lt_of_lt_of_le fc25.lt (Nat.le_of_eq g23.symm)
  have fc26 : Arv Z h22 b10 k10 .int (8 : Int32) [(.int (0 : Int32)), (.int (0 : Int32)), (.int (0 : Int32)), (.int (0 : Int32)), (.int (0 : Int32)), (.int (0 : Int32)), (.int (0 : Int32)), (.int (0 : Int32))] (.int (0 : Int32)) := ((fc19.ext E16).other W22 (Nat.ne_of_gt lta1_10))
  have ltb10_23 : b10 < b23 := Nat.lt_of_lt_of_le fc26.lt (Nat.le_of_eq g23.symm)
  have fc27 : Arv Z h22 b16 k16 .double (8 : Int32) [(.double (0 : UInt64)), (.double (0 : UInt64)), (.double (0 : UInt64)), (.double (0 : UInt64)), (.double (0 : UInt64)), (.double (0 : UInt64)), (.double (0 : UInt64)), (.double (0 : UInt64))] (.double (0 : UInt64)) := (V16.other W22 (Nat.ne_of_gt lta1_16))
  have ltb16_23 : b16 < b23 := Nat.lt_of_lt_of_le fc27.lt (Nat.le_of_eq g23.symm)
  have gg23 : n0 ≤ b23 := Nat.le_trans Z22 (Nat.le_of_eq g23.symm)
  have sz23 : h0.size ≤ b23 := Nat.le_trans K22.1 (Nat.le_of_eq g23.symm)
  have Z23 : n0 ≤ h23.size := Nat.le_trans Z22 E23.1
  have K23 := K22.ext E23
  refine Goes.pre st23 ?_
  have V23 : Arv Z h23 b23 k23 .int (8 : Int32) [(.int (0 : Int32)), (.int (0 : Int32)), (.int (0 : Int32)), (.int (0 : Int32)), (.int (0 : Int32)), (.int (0 : Int32)), (.int (0 : Int32)), (.int (0 : Int32))] (.int (0 : Int32)) := (Arv.new A23 (by decide)).pad (pad_rep [] (.int (0 : Int32)) 8)
  show Goes p e below s _ _ _ (T23.setTop (mkF m 45 #[.val (.ref a1), .val (.int nn)] [(.ref b23), (.ref a1)]))
  have fc28 : Fld Z h23 a1 "com/example/nosograph/nosograph/ranking/DocumentSums" "slots" "[I" .null := ((((((((pf_F_a1_com_example_nosograph_nosograph_ranking_DocumentSums_slots.ext E2).other W5 (Or.inr (slot_ne (Or.inl (hw _ (List.mem_of_getElem? (i := 30) rfl))) (Or.inl (hw _ (List.mem_of_getElem? (i := 16) rfl))) (by decide) (t := (.array .int)) (t' := (.array .int)) (by decide) (by decide)))).other W9 (Or.inr (slot_ne (Or.inl (hw _ (List.mem_of_getElem? (i := 30) rfl))) (Or.inl (hw _ (List.mem_of_getElem? (i := 23) rfl))) (by decide) (t := (.array .int)) (t' := .int) (by decide) (by decide)))).ext E10).other W15 (Or.inr (slot_ne (Or.inl (hw _ (List.mem_of_getElem? (i := 30) rfl))) (Or.inl (hw _ (List.mem_of_getElem? (i := 25) rfl))) (by decide) (t := (.array .int)) (t' := (.array .int)) (by decide) (by decide)))).ext E16).other W22 (Or.inr (slot_ne (Or.inl (hw _ (List.mem_of_getElem? (i := 30) rfl))) (Or.inl (hw _ (List.mem_of_getElem? (i := 28) rfl))) (by decide) (t := (.array .int)) (t' := (.array .double)) (by decide) (by decide)))).ext E23)
  have fc29 : Exa Z h23 a1 "com/example/nosograph/nosograph/ranking/DocumentSums" := (fc24.ext E23)
  obtain ⟨T30, h30, X30, e30, W30, st30⟩ := putF X23 hx hZ hown (host := "") (Or.inl (hw _ (List.mem_of_getElem? (i := 29) rfl))) Via.refl e23 fc28 fc29 (Or.inl (hw _ (List.mem_of_getElem? (i := 30) rfl))) (hw _ (List.mem_of_getElem? (i := 6) rfl)) (ty := (.array .int)) (by decide) rfl rfl (g := (mkF m 45 #[.val (.ref a1), .val (.int nn)] [(.ref b23), (.ref a1)])) rfl rfl (hb hby d2_45)
  refine Goes.pre st30 ?_
  have Z30 : n0 ≤ h30.size := Nat.le_trans Z23 (Keep.of_wr W30).1
  have N30 := Fr.snoc X30 N22 pf_G_a1
  have K30 := K23.wr W30 (Or.inl (List.mem_of_getElem? (i := 0) rfl))
  have Fw30 : Fld Z h30 a1 "com/example/nosograph/nosograph/ranking/DocumentSums" "slots" "[I" (.ref b23) := fc28.same W30
  show Goes p e below s _ _ _ (T30.setTop (mkF m 48 #[.val (.ref a1), .val (.int nn)] []))
  refine Goes.pre (fun t kt => XS.aloadN X30.here hx rfl (hb hby d2_48) rfl rfl kt) ?_
  show Goes p e below s _ _ _ (T30.setTop (mkF m 49 #[.val (.ref a1), .val (.int nn)] [(.ref a1)]))
  refine Goes.pre (fun t kt => XS.iloadN X30.here hx rfl (hb hby d2_49) rfl kt) ?_
  show Goes p e below s _ _ _ (T30.setTop (mkF m 50 #[.val (.ref a1), .val (.int nn)] [(.int nn), (.ref a1)]))
  have fc31 : Fld Z h30 a1 "com/example/nosograph/nosograph/ranking/DocumentSums" "documentCount" "I" (.int (0 : Int32)) := (((((((((pf_F_a1_com_example_nosograph_nosograph_ranking_DocumentSums_documentCount.ext E2).other W5 (Or.inr (slot_ne (Or.inr (hw _ (List.mem_of_getElem? (i := 32) rfl))) (Or.inl (hw _ (List.mem_of_getElem? (i := 16) rfl))) (by decide) (t := .int) (t' := (.array .int)) (by decide) (by decide)))).other W9 (Or.inr (slot_ne (Or.inr (hw _ (List.mem_of_getElem? (i := 32) rfl))) (Or.inl (hw _ (List.mem_of_getElem? (i := 23) rfl))) (by decide) (t := .int) (t' := .int) (by decide) (by decide)))).ext E10).other W15 (Or.inr (slot_ne (Or.inr (hw _ (List.mem_of_getElem? (i := 32) rfl))) (Or.inl (hw _ (List.mem_of_getElem? (i := 25) rfl))) (by decide) (t := .int) (t' := (.array .int)) (by decide) (by decide)))).ext E16).other W22 (Or.inr (slot_ne (Or.inr (hw _ (List.mem_of_getElem? (i := 32) rfl))) (Or.inl (hw _ (List.mem_of_getElem? (i := 28) rfl))) (by decide) (t := .int) (t' := (.array .double)) (by decide) (by decide)))).ext E23).other W30 (Or.inr (slot_ne (Or.inr (hw _ (List.mem_of_getElem? (i := 32) rfl))) (Or.inl (hw _ (List.mem_of_getElem? (i := 30) rfl))) (by decide) (t := .int) (t' := (.array .int)) (by decide) (by decide))))
  have fc32 : Exa Z h30 a1 "com/example/nosograph/nosograph/ranking/DocumentSums" := (fc29.wr W30)
  obtain ⟨T33, h33, X33, e33, W33, st33⟩ := putF X30 hx hZ hown (host := "") (Or.inl (hw _ (List.mem_of_getElem? (i := 31) rfl))) Via.refl e30 fc31 fc32 (Or.inr ⟨(hw _ (List.mem_of_getElem? (i := 32) rfl)), rfl, hnm⟩) (hw _ (List.mem_of_getElem? (i := 6) rfl)) (ty := .int) (by decide) rfl rfl (g := (mkF m 50 #[.val (.ref a1), .val (.int nn)] [(.int nn), (.ref a1)])) rfl rfl (hb hby d2_50)
  refine Goes.pre st33 ?_
  have Z33 : n0 ≤ h33.size := Nat.le_trans Z30 (Keep.of_wr W33).1
  have N33 := Fr.snoc X33 N30 pf_G_a1
  have K33 := K30.wr W33 (Or.inl (List.mem_of_getElem? (i := 0) rfl))
  have Fw33 : Fld Z h33 a1 "com/example/nosograph/nosograph/ranking/DocumentSums" "documentCount" "I" (.int nn) := fc31.same W33
  show Goes p e below s _ _ _ (T33.setTop (mkF m 53 #[.val (.ref a1), .val (.int nn)] []))
  refine Goes.pre (fun t kt => XS.aloadN X33.here hx rfl (hb hby d2_53) rfl rfl kt) ?_
  show Goes p e below s _ _ _ (T33.setTop (mkF m 54 #[.val (.ref a1), .val (.int nn)] [(.ref a1)]))
  have fc34 : Fld Z h33 a1 "com/example/nosograph/nosograph/ranking/DocumentSums" "table" "[I" (.ref b2) := ((((((((Fw5.other W9 (Or.inr (slot_ne (Or.inl (hw _ (List.mem_of_getElem? (i := 16) rfl))) (Or.inl (hw _ (List.mem_of_getElem? (i := 23) rfl))) (by decide) (t := (.array .int)) (t' := .int) (by decide) (by decide)))).ext E10).other W15 (Or.inr (slot_ne (Or.inl (hw _ (List.mem_of_getElem? (i := 16) rfl))) (Or.inl (hw _ (List.mem_of_getElem? (i := 25) rfl))) (by decide) (t := (.array .int)) (t' := (.array .int)) (by decide) (by decide)))).ext E16).other W22 (Or.inr (slot_ne (Or.inl (hw _ (List.mem_of_getElem? (i := 16) rfl))) (Or.inl (hw _ (List.mem_of_getElem? (i := 28) rfl))) (by decide) (t := (.array .int)) (t' := (.array .double)) (by decide) (by decide)))).ext E23).other W30 (Or.inr (slot_ne (Or.inl (hw _ (List.mem_of_getElem? (i := 16) rfl))) (Or.inl (hw _ (List.mem_of_getElem? (i := 30) rfl))) (by decide) (t := (.array .int)) (t' := (.array .int)) (by decide) (by decide)))).other W33 (Or.inr (slot_ne (Or.inl (hw _ (List.mem_of_getElem? (i := 16) rfl))) (Or.inr (hw _ (List.mem_of_getElem? (i := 32) rfl))) (by decide) (t := (.array .int)) (t' := .int) (by decide) (by decide))))
  obtain ⟨T35, X35, e35, st35⟩ := getF X33 hx hZ hown (host := "") (Or.inl (hw _ (List.mem_of_getElem? (i := 15) rfl))) Via.refl e33 fc34 (g := (mkF m 54 #[.val (.ref a1), .val (.int nn)] [(.ref a1)])) rfl rfl (hb hby d2_54)
  refine Goes.pre st35 ?_
  show Goes p e below s _ _ _ (T35.setTop (mkF m 57 #[.val (.ref a1), .val (.int nn)] [(.ref b2)]))
  refine Goes.pre (fun t kt => XS.iconst X35.here hx rfl (hb hby d2_57) kt) ?_
  show Goes p e below s _ _ _ (T35.setTop (mkF m 58 #[.val (.ref a1), .val (.int nn)] [(.int (-1 : Int32)), (.ref b2)]))
  have fc36 : Arv Z h33 b2 k2 .int (16 : Int32) [(.int (0 : Int32)), (.int (0 : Int32)), (.int (0 : Int32)), (.int (0 : Int32)), (.int (0 : Int32)), (.int (0 : Int32)), (.int (0 : Int32)), (.int (0 : Int32)), (.int (0 : Int32)), (.int (0 : Int32)), (.int (0 : Int32)), (.int (0 : Int32)), (.int (0 : Int32)), (.int (0 : Int32)), (.int (0 : Int32)), (.int (0 : Int32))] (.int (0 : Int32)) := (((fc25.ext E23).other W30 (Nat.ne_of_gt lta1_2)).other W33 (Nat.ne_of_gt lta1_2))
  obtain ⟨_, _, ⟨T37, L37, k37, n37⟩, -, X37, ⟨Lc37, hQ37, l37, y37, z37⟩, st37⟩ := Jvm.LawKit.callS X35 hx (y := (⟨"java/util/Arrays", "fill", "([II)V"⟩ : MethodName)) hown (mvT hZ (hw _ (List.mem_of_getElem? (i := 33) rfl))) (mvT hZ (hw _ (List.mem_of_getElem? (i := 34) rfl))) (mvT hZ (hw _ (List.mem_of_getElem? (i := 35) rfl))) (mvT hZ (hw _ (List.mem_of_getElem? (i := 36) rfl))) (by decide) (backOf (W := 0) (rmfill l Z a0 hw [] b2 k2 h33 n0 Z33 fc36 gg2) hZ (hw _ (List.mem_of_getElem? (i := 36) rfl)) (hw _ (List.mem_of_getElem? (i := 35) rfl)) (by decide) (by decide)) (g := (mkF m 58 #[.val (.ref a1), .val (.int nn)] [(.int (-1 : Int32)), (.ref b2)])) rfl (by rw [hml]; rfl) (argsL := [(.ref b2), (.int (-1 : Int32))]) (rest := []) (lenOf pd_3 rfl) rfl (by show 2 * 0 + _ ≤ _; exact Nat.le_of_eq rfl) (hb hby d2_58) (fun _ _ => ⟨rfl, e35, (by decide : 4 + 0 ≤ _), (by decide : 40 + 0 ≤ _)⟩)
  dsimp only [Pt.U, Pt.locs, Pt.cells, Pt.slots] at X37 l37 y37 z37 st37 hQ37
  subst l37 y37 z37
  obtain ⟨rfl, Nq37, Kq37, pq37_0⟩ := hQ37
  refine Goes.pre st37 ?_
  have N37 := Fr.app N33 Nq37
  obtain ⟨h37, e37⟩ : ∃ z, T37.heap = z := ⟨_, rfl⟩
  rw [e37] at Kq37 pq37_0
  have Z37 : n0 ≤ h37.size := Nat.le_trans Z33 Kq37.1
  have K37 := K33.trans Kq37 (allS (P := fun x => x ∈ [a1] ∨ h0.size ≤ x) (Or.inr sz2) all0)
  show Goes p e below s _ _ _ (T37.setTop (mkF m 61 #[.val (.ref a1), .val (.int nn)] []))
  have fc38 : Fld Z h37 a1 "com/example/nosograph/nosograph/ranking/DocumentSums" "table" "[I" (.ref b2) := (fc34.keep Kq37 (ninS (Nat.ne_of_lt lta1_2) nin0))
  have fc39 : Fld Z h37 a1 "com/example/nosograph/nosograph/ranking/DocumentSums" "shift" "I" (.int (28 : Int32)) := ((((((((Fw9.ext E10).other W15 (Or.inr (slot_ne (Or.inl (hw _ (List.mem_of_getElem? (i := 23) rfl))) (Or.inl (hw _ (List.mem_of_getElem? (i := 25) rfl))) (by decide) (t := .int) (t' := (.array .int)) (by decide) (by decide)))).ext E16).other W22 (Or.inr (slot_ne (Or.inl (hw _ (List.mem_of_getElem? (i := 23) rfl))) (Or.inl (hw _ (List.mem_of_getElem? (i := 28) rfl))) (by decide) (t := .int) (t' := (.array .double)) (by decide) (by decide)))).ext E23).other W30 (Or.inr (slot_ne (Or.inl (hw _ (List.mem_of_getElem? (i := 23) rfl))) (Or.inl (hw _ (List.mem_of_getElem? (i := 30) rfl))) (by decide) (t := .int) (t' := (.array .int)) (by decide) (by decide)))).other W33 (Or.inr (slot_ne (Or.inl (hw _ (List.mem_of_getElem? (i := 23) rfl))) (Or.inr (hw _ (List.mem_of_getElem? (i := 32) rfl))) (by decide) (t := .int) (t' := .int) (by decide) (by decide)))).keep Kq37 (ninS (Nat.ne_of_lt lta1_2) nin0))
  have fc40 : Fld Z h37 a1 "com/example/nosograph/nosograph/ranking/DocumentSums" "documents" "[I" (.ref b10) := ((((((Fw15.ext E16).other W22 (Or.inr (slot_ne (Or.inl (hw _ (List.mem_of_getElem? (i := 25) rfl))) (Or.inl (hw _ (List.mem_of_getElem? (i := 28) rfl))) (by decide) (t := (.array .int)) (t' := (.array .double)) (by decide) (by decide)))).ext E23).other W30 (Or.inr (slot_ne (Or.inl (hw _ (List.mem_of_getElem? (i := 25) rfl))) (Or.inl (hw _ (List.mem_of_getElem? (i := 30) rfl))) (by decide) (t := (.array .int)) (t' := (.array .int)) (by decide) (by decide)))).other W33 (Or.inr (slot_ne (Or.inl (hw _ (List.mem_of_getElem? (i := 25) rfl))) (Or.inr (hw _ (List.mem_of_getElem? (i := 32) rfl))) (by decide) (t := (.array .int)) (t' := .int) (by decide) (by decide)))).keep Kq37 (ninS (Nat.ne_of_lt lta1_2) nin0))
  have fc41 : Fld Z h37 a1 "com/example/nosograph/nosograph/ranking/DocumentSums" "sums" "[D" (.ref b16) := ((((Fw22.ext E23).other W30 (Or.inr (slot_ne (Or.inl (hw _ (List.mem_of_getElem? (i := 28) rfl))) (Or.inl (hw _ (List.mem_of_getElem? (i := 30) rfl))) (by decide) (t := (.array .double)) (t' := (.array .int)) (by decide) (by decide)))).other W33 (Or.inr (slot_ne (Or.inl (hw _ (List.mem_of_getElem? (i := 28) rfl))) (Or.inr (hw _ (List.mem_of_getElem? (i := 32) rfl))) (by decide) (t := (.array .double)) (t' := .int) (by decide) (by decide)))).keep Kq37 (ninS (Nat.ne_of_lt lta1_2) nin0))
  have fc42 : Fld Z h37 a1 "com/example/nosograph/nosograph/ranking/DocumentSums" "slots" "[I" (.ref b23) := ((Fw30.other W33 (Or.inr (slot_ne (Or.inl (hw _ (List.mem_of_getElem? (i := 30) rfl))) (Or.inr (hw _ (List.mem_of_getElem? (i := 32) rfl))) (by decide) (t := (.array .int)) (t' := .int) (by decide) (by decide)))).keep Kq37 (ninS (Nat.ne_of_lt lta1_2) nin0))
  have fc43 : Fld Z h37 a1 "com/example/nosograph/nosograph/ranking/DocumentSums" "documentCount" "I" (.int nn) := (Fw33.keep Kq37 (ninS (Nat.ne_of_lt lta1_2) nin0))
  have fc44 : Fld Z h37 a1 "com/example/nosograph/nosograph/ranking/DocumentSums" "count" "I" (.int (0 : Int32)) := (((((((((((pf_F_a1_com_example_nosograph_nosograph_ranking_DocumentSums_count.ext E2).other W5 (Or.inr (slot_ne (Or.inl (hw _ (List.mem_of_getElem? (i := 56) rfl))) (Or.inl (hw _ (List.mem_of_getElem? (i := 16) rfl))) (by decide) (t := .int) (t' := (.array .int)) (by decide) (by decide)))).other W9 (Or.inr (slot_ne (Or.inl (hw _ (List.mem_of_getElem? (i := 56) rfl))) (Or.inl (hw _ (List.mem_of_getElem? (i := 23) rfl))) (by decide) (t := .int) (t' := .int) (by decide) (by decide)))).ext E10).other W15 (Or.inr (slot_ne (Or.inl (hw _ (List.mem_of_getElem? (i := 56) rfl))) (Or.inl (hw _ (List.mem_of_getElem? (i := 25) rfl))) (by decide) (t := .int) (t' := (.array .int)) (by decide) (by decide)))).ext E16).other W22 (Or.inr (slot_ne (Or.inl (hw _ (List.mem_of_getElem? (i := 56) rfl))) (Or.inl (hw _ (List.mem_of_getElem? (i := 28) rfl))) (by decide) (t := .int) (t' := (.array .double)) (by decide) (by decide)))).ext E23).other W30 (Or.inr (slot_ne (Or.inl (hw _ (List.mem_of_getElem? (i := 56) rfl))) (Or.inl (hw _ (List.mem_of_getElem? (i := 30) rfl))) (by decide) (t := .int) (t' := (.array .int)) (by decide) (by decide)))).other W33 (Or.inr (slot_ne (Or.inl (hw _ (List.mem_of_getElem? (i := 56) rfl))) (Or.inr (hw _ (List.mem_of_getElem? (i := 32) rfl))) (by decide) (t := .int) (t' := .int) (by decide) (by decide)))).keep Kq37 (ninS (Nat.ne_of_lt lta1_2) nin0))
  have fc45 : Arv Z h37 b10 k10 .int (8 : Int32) [(.int (0 : Int32)), (.int (0 : Int32)), (.int (0 : Int32)), (.int (0 : Int32)), (.int (0 : Int32)), (.int (0 : Int32)), (.int (0 : Int32)), (.int (0 : Int32))] (.int (0 : Int32)) := ((((fc26.ext E23).other W30 (Nat.ne_of_gt lta1_10)).other W33 (Nat.ne_of_gt lta1_10)).keep Kq37 (ninS (Nat.ne_of_gt ltb2_10) nin0))
  have fc46 : Arv Z h37 b16 k16 .double (8 : Int32) [(.double (0 : UInt64)), (.double (0 : UInt64)), (.double (0 : UInt64)), (.double (0 : UInt64)), (.double (0 : UInt64)), (.double (0 : UInt64)), (.double (0 : UInt64)), (.double (0 : UInt64))] (.double (0 : UInt64)) := ((((fc27.ext E23).other W30 (Nat.ne_of_gt lta1_16)).other W33 (Nat.ne_of_gt lta1_16)).keep Kq37 (ninS (Nat.ne_of_gt ltb2_16) nin0))
  have fc47 : Arv Z h37 b23 k23 .int (8 : Int32) [(.int (0 : Int32)), (.int (0 : Int32)), (.int (0 : Int32)), (.int (0 : Int32)), (.int (0 : Int32)), (.int (0 : Int32)), (.int (0 : Int32)), (.int (0 : Int32))] (.int (0 : Int32)) := (((V23.other W30 (Nat.ne_of_gt lta1_23)).other W33 (Nat.ne_of_gt lta1_23)).keep Kq37 (ninS (Nat.ne_of_gt ltb2_23) nin0))
  refine Goes.ret X37 none (fun _ => rfl) (BodyLoose.notSynchronized Bd) (by decide) (by decide) (fun fs hr => X37.returnOut hx Bd.returns (hb hby d2_61) hr) ?_
  show Q_rminit Z a1 nn h0 n0 _ T37.heap _
  rw [e37]
  exact ⟨b2, b10, b16, b23, rfl, N37, K37, sz2, sz10, sz16, sz23, gg2, gg10, gg16, gg23, (Nat.ne_of_gt ltb2_10), (Nat.ne_of_gt ltb2_16), (Nat.ne_of_gt ltb10_16), (Nat.ne_of_gt ltb2_23), (Nat.ne_of_gt ltb10_23), (Nat.ne_of_gt ltb16_23), fc38, fc39, fc40, fc41, fc42, fc43, fc44, (OwnI.of (n := 16) (u := -1) pq37_0 rfl), (OwnI.of (n := 8) (u := 0) fc45 rfl), (OwnD.of (n := 8) (u := 0) fc46 rfl), (OwnI.of (n := 8) (u := 0) fc47 rfl)⟩
theorem d9_0 : decode prog_56_method_7_code 0 = .ok (.aload_n 0, 1) := by decide +kernel
theorem d9_1 : decode prog_56_method_7_code 1 = .ok (.getfield 9, 3) := by decide +kernel
theorem d9_4 : decode prog_56_method_7_code 4 = .ok (.arraylength, 1) := by decide +kernel
theorem d9_5 : decode prog_56_method_7_code 5 = .ok (.iconst 1, 1) := by decide +kernel
theorem d9_6 : decode prog_56_method_7_code 6 = .ok (.isub, 1) := by decide +kernel
theorem d9_7 : decode prog_56_method_7_code 7 = .ok (.istore_n 2, 1) := by decide +kernel
theorem d9_8 : decode prog_56_method_7_code 8 = .ok (.iload_n 1, 1) := by decide +kernel
theorem d9_9 : decode prog_56_method_7_code 9 = .ok (.ldc 61, 2) := by decide +kernel
theorem d9_11 : decode prog_56_method_7_code 11 = .ok (.imul, 1) := by decide +kernel
theorem d9_12 : decode prog_56_method_7_code 12 = .ok (.aload_n 0, 1) := by decide +kernel
theorem d9_13 : decode prog_56_method_7_code 13 = .ok (.getfield 19, 3) := by decide +kernel
theorem d9_16 : decode prog_56_method_7_code 16 = .ok (.iushr, 1) := by decide +kernel
theorem d9_17 : decode prog_56_method_7_code 17 = .ok (.istore_n 3, 1) := by decide +kernel
theorem d9_18 : decode prog_56_method_7_code 18 = .ok (.aload_n 0, 1) := by decide +kernel
theorem d9_19 : decode prog_56_method_7_code 19 = .ok (.getfield 9, 3) := by decide +kernel
theorem d9_22 : decode prog_56_method_7_code 22 = .ok (.iload_n 3, 1) := by decide +kernel
theorem d9_23 : decode prog_56_method_7_code 23 = .ok (.iaload, 1) := by decide +kernel
theorem d9_24 : decode prog_56_method_7_code 24 = .ok (.iconst (-1), 1) := by decide +kernel
theorem d9_25 : decode prog_56_method_7_code 25 = .ok (.if_icmp .eq 27, 3) := by decide +kernel
theorem d9_52 : decode prog_56_method_7_code 52 = .ok (.iload_n 3, 1) := by decide +kernel
theorem d9_53 : decode prog_56_method_7_code 53 = .ok (.ireturn, 1) := by decide +kernel
theorem d9_28 : decode prog_56_method_7_code 28 = .ok (.aload_n 0, 1) := by decide +kernel
theorem d9_29 : decode prog_56_method_7_code 29 = .ok (.getfield 23, 3) := by decide +kernel
theorem d9_32 : decode prog_56_method_7_code 32 = .ok (.aload_n 0, 1) := by decide +kernel
theorem d9_33 : decode prog_56_method_7_code 33 = .ok (.getfield 9, 3) := by decide +kernel
theorem d9_36 : decode prog_56_method_7_code 36 = .ok (.iload_n 3, 1) := by decide +kernel
theorem d9_37 : decode prog_56_method_7_code 37 = .ok (.iaload, 1) := by decide +kernel
theorem d9_38 : decode prog_56_method_7_code 38 = .ok (.iaload, 1) := by decide +kernel
theorem d9_39 : decode prog_56_method_7_code 39 = .ok (.iload_n 1, 1) := by decide +kernel
theorem d9_40 : decode prog_56_method_7_code 40 = .ok (.if_icmp .eq 12, 3) := by decide +kernel
theorem d9_43 : decode prog_56_method_7_code 43 = .ok (.iload_n 3, 1) := by decide +kernel
theorem d9_44 : decode prog_56_method_7_code 44 = .ok (.iconst 1, 1) := by decide +kernel
theorem d9_45 : decode prog_56_method_7_code 45 = .ok (.iadd, 1) := by decide +kernel
theorem d9_46 : decode prog_56_method_7_code 46 = .ok (.iload_n 2, 1) := by decide +kernel
theorem d9_47 : decode prog_56_method_7_code 47 = .ok (.iand, 1) := by decide +kernel
theorem d9_48 : decode prog_56_method_7_code 48 = .ok (.istore_n 3, 1) := by decide +kernel
theorem d9_49 : decode prog_56_method_7_code 49 = .ok (.goto (-31), 3) := by decide +kernel
def Q_rmslot (Z : State) (a1 : Addr) (dd : Int32) (ta : Addr) (da : Addr) (ff : (Int32 → Int32)) (gg : (Int32 → Int32)) (n1 : Nat) (h0 : Heap) (n0 : Nat) (v : Option Value) (h : Heap) (L : List Loc) : Prop := ∃ sl : Int32, v = some (.int sl) ∧ Fr n0 L ∧ h = h0 ∧ (own_slot ff gg dd sl)
theorem ef_rmslot (m : MethodId) (a1 : Addr) (dd : Int32) : entryFrame m #[(.ref a1), (.int dd)] 4 = mkF m 0 #[.val (.ref a1), .val (.int dd), .unset, .unset] [] := by first | (simp [entryFrame, mkF, argsToLocals, Value.category]; done) | rfl
set_option maxRecDepth 65536 in
set_option maxHeartbeats 40000000 in
theorem rmslot (l : Launch) (Z : State) (a0 : Array Value) (hw : ∀ d ∈ tables_1, d.before a0 Z = true) (ws : List Jvm.Cond) (a1 : Addr) (dd : Int32) (ta : Addr) (da : Addr) (ff : (Int32 → Int32)) (gg : (Int32 → Int32)) (n1 : Nat) (h0 : Heap) (n0 : Nat) (Z0 : n0 ≤ h0.size) (pf_F_a1_com_example_nosograph_nosograph_ranking_DocumentSums_table : Fld Z h0 a1 "com/example/nosograph/nosograph/ranking/DocumentSums" "table" "[I" (.ref ta)) (pf_F_a1_com_example_nosograph_nosograph_ranking_DocumentSums_shift : Fld Z h0 a1 "com/example/nosograph/nosograph/ranking/DocumentSums" "shift" "I" (.int (28 : Int32))) (pf_F_a1_com_example_nosograph_nosograph_ranking_DocumentSums_documents : Fld Z h0 a1 "com/example/nosograph/nosograph/ranking/DocumentSums" "documents" "[I" (.ref da)) (pf_I_ta : OwnI Z h0 ta (16 : Int32) ff) (pf_I_da : OwnI Z h0 da (8 : Int32) gg) (hI : own_inv ff gg n1) :
    MetFree l (⟨"com/example/nosograph/nosograph/ranking/DocumentSums", "slot", "(I)I"⟩ : MethodName) (head1 (Jvm.Cond.code (⟨"com/example/nosograph/nosograph/ranking/DocumentSums", "slot", "(I)I"⟩ : MethodName) prog_56_method_7_code 4 (some .int) :: ws) ({ frames := 0, cells := 0, slots := 0, locals := 0 } : Room)) (fun a U => a = #[(.ref a1), (.int dd)] ∧ Z.Warmed39 U.vm ∧ U.heap = h0) (fun _ _ _ _ _ => True) (fun _ U o U' => ∃ v L, o = .returned v ∧ Q_rmslot Z a1 dd ta da ff gg n1 h0 n0 v U'.heap L ∧ FrameEnd U o U' L ({ frames := 0, cells := 0, slots := 0, locals := 0 } : Room).cells ({ frames := 0, cells := 0, slots := 0, locals := 0 } : Room).slots) := by
  refine MetFree.of_bodySF (plainFor_of_name pn_4) hisR ?_
  intro p e s m args below meth c s₁ Bd hml0 hP hK
  obtain ⟨rfl, hZ, hh⟩ := hP
  have hx := Bd.exec
  have hby := Bd.bytes
  have hml : c.maxLocals = 4 := hml0
  have hown : s.vm.findClass "com/example/nosograph/nosograph/ranking/DocumentSums" = some m.cls := findClass_of_methodNamed Bd.named
  have hnm := (name_of_methodNamed Bd.named Bd.method).1
  have X0 : Stand p l e ({ frames := 0, cells := 0, slots := 0, locals := 0 } : Room) s m #[(.ref a1), (.int dd)] below meth c s₁ [] 0 0 := Stand.of_body Bd
  have e0 : s₁.heap = h0 := by rw [← hh, Bd.state]; rfl
  have N0 := Fr.nil n0
  show Goes p e below s (Q_rmslot Z a1 dd ta da ff gg n1 h0 n0) ({ frames := 0, cells := 0, slots := 0, locals := 0 } : Room).cells ({ frames := 0, cells := 0, slots := 0, locals := 0 } : Room).slots (s₁.setTop (entryFrame m #[(.ref a1), (.int dd)] 4))
  refine Goes.pre (fun t kt => castTop (ef_rmslot m a1 dd) kt) ?_
  show Goes p e below s _ _ _ (s₁.setTop (mkF m 0 #[.val (.ref a1), .val (.int dd), .unset, .unset] []))
  refine Goes.pre (fun t kt => XS.aloadN X0.here hx rfl (hb hby d9_0) rfl rfl kt) ?_
  show Goes p e below s _ _ _ (s₁.setTop (mkF m 1 #[.val (.ref a1), .val (.int dd), .unset, .unset] [(.ref a1)]))
  obtain ⟨T1, X1, e1, st1⟩ := getF X0 hx hZ hown (host := "") (Or.inl (hw _ (List.mem_of_getElem? (i := 15) rfl))) Via.refl e0 pf_F_a1_com_example_nosograph_nosograph_ranking_DocumentSums_table (g := (mkF m 1 #[.val (.ref a1), .val (.int dd), .unset, .unset] [(.ref a1)])) rfl rfl (hb hby d9_1)
  refine Goes.pre st1 ?_
  show Goes p e below s _ _ _ (T1.setTop (mkF m 4 #[.val (.ref a1), .val (.int dd), .unset, .unset] [(.ref ta)]))
  obtain ⟨cl2, Ar2, aS2, aN2, aH2⟩ := pf_I_ta
  have In2 : OwnI Z h0 ta (16 : Int32) ff := ⟨cl2, Ar2, aS2, aN2, aH2⟩
  refine Goes.pre (X1.arraylength hx (by rw [e1]; exact Ar2.1) (State.isArrayOf_alike hZ.alike Ar2.2.1) (g := (mkF m 4 #[.val (.ref a1), .val (.int dd), .unset, .unset] [(.ref ta)])) rfl rfl (hb hby d9_4)) ?_
  rw [len_of aS2 aN2]
  show Goes p e below s _ _ _ (T1.setTop (mkF m 5 #[.val (.ref a1), .val (.int dd), .unset, .unset] [(.int (16 : Int32))]))
  refine Goes.pre (fun t kt => XS.iconst X1.here hx rfl (hb hby d9_5) kt) ?_
  show Goes p e below s _ _ _ (T1.setTop (mkF m 6 #[.val (.ref a1), .val (.int dd), .unset, .unset] [(.int (1 : Int32)), (.int (16 : Int32))]))
  refine Goes.pre (fun t kt => XS.isub X1.here hx rfl (hb hby d9_6) rfl kt) ?_
  show Goes p e below s _ _ _ (T1.setTop (mkF m 7 #[.val (.ref a1), .val (.int dd), .unset, .unset] [(.int (15 : Int32))]))
  refine Goes.pre (fun t kt => XS.istoreN X1.here hx rfl (hb hby d9_7) rfl (l' := #[.val (.ref a1), .val (.int dd), .val (.int (15 : Int32)), .unset]) rfl kt) ?_
  show Goes p e below s _ _ _ (T1.setTop (mkF m 8 #[.val (.ref a1), .val (.int dd), .val (.int (15 : Int32)), .unset] []))
  refine Goes.pre (fun t kt => XS.iloadN X1.here hx rfl (hb hby d9_8) rfl kt) ?_
  show Goes p e below s _ _ _ (T1.setTop (mkF m 9 #[.val (.ref a1), .val (.int dd), .val (.int (15 : Int32)), .unset] [(.int dd)]))
  refine Goes.pre (X1.ldcInt hx hown (mvT hZ (hw _ (List.mem_of_getElem? (i := 54) rfl))) (g := (mkF m 9 #[.val (.ref a1), .val (.int dd), .val (.int (15 : Int32)), .unset] [(.int dd)])) rfl (hb hby d9_9)) ?_
  show Goes p e below s _ _ _ (T1.setTop (mkF m 11 #[.val (.ref a1), .val (.int dd), .val (.int (15 : Int32)), .unset] [(.int (-1640531527 : Int32)), (.int dd)]))
  refine Goes.pre (fun t kt => XS.imul X1.here hx rfl (hb hby d9_11) rfl kt) ?_
  show Goes p e below s _ _ _ (T1.setTop (mkF m 12 #[.val (.ref a1), .val (.int dd), .val (.int (15 : Int32)), .unset] [(.int (dd * (-1640531527 : Int32)))]))
  refine Goes.pre (fun t kt => XS.aloadN X1.here hx rfl (hb hby d9_12) rfl rfl kt) ?_
  show Goes p e below s _ _ _ (T1.setTop (mkF m 13 #[.val (.ref a1), .val (.int dd), .val (.int (15 : Int32)), .unset] [(.ref a1), (.int (dd * (-1640531527 : Int32)))]))
  obtain ⟨T3, X3, e3, st3⟩ := getF X1 hx hZ hown (host := "") (Or.inl (hw _ (List.mem_of_getElem? (i := 22) rfl))) Via.refl e1 pf_F_a1_com_example_nosograph_nosograph_ranking_DocumentSums_shift (g := (mkF m 13 #[.val (.ref a1), .val (.int dd), .val (.int (15 : Int32)), .unset] [(.ref a1), (.int (dd * (-1640531527 : Int32)))])) rfl rfl (hb hby d9_13)
  refine Goes.pre st3 ?_
  show Goes p e below s _ _ _ (T3.setTop (mkF m 16 #[.val (.ref a1), .val (.int dd), .val (.int (15 : Int32)), .unset] [(.int (28 : Int32)), (.int (dd * (-1640531527 : Int32)))]))
  refine Goes.pre (fun t kt => XS.iushr X3.here hx rfl (hb hby d9_16) rfl kt) ?_
  show Goes p e below s _ _ _ (T3.setTop (mkF m 17 #[.val (.ref a1), .val (.int dd), .val (.int (15 : Int32)), .unset] [(.int (((dd * (-1640531527 : Int32)).toUInt32 >>> ((28 : Int32) &&& 31).toUInt32).toInt32))]))
  refine Goes.pre (fun t kt => XS.istoreN X3.here hx rfl (hb hby d9_17) rfl (l' := #[.val (.ref a1), .val (.int dd), .val (.int (15 : Int32)), .val (.int (((dd * (-1640531527 : Int32)).toUInt32 >>> ((28 : Int32) &&& 31).toUInt32).toInt32))]) rfl kt) ?_
  show Goes p e below s _ _ _ (T3.setTop (mkF m 18 #[.val (.ref a1), .val (.int dd), .val (.int (15 : Int32)), .val (.int (((dd * (-1640531527 : Int32)).toUInt32 >>> ((28 : Int32) &&& 31).toUInt32).toInt32))] []))
  show Goes p e below s _ _ _ (T3.setTop (mkF m 18 #[.val (.ref a1), .val (.int dd), .val (.int (15 : Int32)), .val (.int (own_e dd 0))] []))
  refine Goes.pre (fun t kt => XS.aloadN X3.here hx rfl (hb hby d9_18) rfl rfl kt) ?_
  show Goes p e below s _ _ _ (T3.setTop (mkF m 19 #[.val (.ref a1), .val (.int dd), .val (.int (15 : Int32)), .val (.int (own_e dd 0))] [(.ref a1)]))
  obtain ⟨T4, X4, e4, st4⟩ := getF X3 hx hZ hown (host := "") (Or.inl (hw _ (List.mem_of_getElem? (i := 15) rfl))) Via.refl e3 pf_F_a1_com_example_nosograph_nosograph_ranking_DocumentSums_table (g := (mkF m 19 #[.val (.ref a1), .val (.int dd), .val (.int (15 : Int32)), .val (.int (own_e dd 0))] [(.ref a1)])) rfl rfl (hb hby d9_19)
  refine Goes.pre st4 ?_
  show Goes p e below s _ _ _ (T4.setTop (mkF m 22 #[.val (.ref a1), .val (.int dd), .val (.int (15 : Int32)), .val (.int (own_e dd 0))] [(.ref ta)]))
  refine Goes.pre (fun t kt => XS.iloadN X4.here hx rfl (hb hby d9_22) rfl kt) ?_
  show Goes p e below s _ _ _ (T4.setTop (mkF m 23 #[.val (.ref a1), .val (.int dd), .val (.int (15 : Int32)), .val (.int (own_e dd 0))] [(.int (own_e dd 0)), (.ref ta)]))
  obtain ⟨cl5, Ar5, aS5, aN5, aH5⟩ := In2
  have In5 : OwnI Z h0 ta (16 : Int32) ff := ⟨cl5, Ar5, aS5, aN5, aH5⟩
  have hin5 : ¬ ((own_e dd 0) < 0 ∨ cl5.slots.size ≤ ((own_e dd 0)).toNatClampNeg) := inb_of aS5 ⟨(own_eR dd 0).1, (own_eR dd 0).2⟩
  have hat5 : cl5.slots[((own_e dd 0)).toNatClampNeg]? = some (.int (ff (own_e dd 0))) := aH5 _ (own_eR dd 0).1 (own_eR dd 0).2
  refine Goes.pre (X4.iaload hx (j := (own_e dd 0)) (v := (.int (ff (own_e dd 0)))) (by rw [e4]; exact Ar5.1) (State.isArrayOf_alike hZ.alike Ar5.2.1) Ar5.2.2 hin5 hat5 (g := (mkF m 23 #[.val (.ref a1), .val (.int dd), .val (.int (15 : Int32)), .val (.int (own_e dd 0))] [(.int (own_e dd 0)), (.ref ta)])) rfl rfl (hb hby d9_23)) ?_
  show Goes p e below s _ _ _ (T4.setTop (mkF m 24 #[.val (.ref a1), .val (.int dd), .val (.int (15 : Int32)), .val (.int (own_e dd 0))] [(.int (ff (own_e dd 0)))]))
  refine Goes.pre (fun t kt => XS.iconst X4.here hx rfl (hb hby d9_24) kt) ?_
  show Goes p e below s _ _ _ (T4.setTop (mkF m 25 #[.val (.ref a1), .val (.int dd), .val (.int (15 : Int32)), .val (.int (own_e dd 0))] [(.int (-1 : Int32)), (.int (ff (own_e dd 0)))]))
  by_cases hE0 : (ff (own_e dd 0)) = (-1 : Int32)
  · refine Goes.pre (fun t kt => XS.icmpYes X4.here hx rfl (pc0 := 25) (pc' := 52) rfl (hb hby d9_25) rfl (Jvm.Free.XT.ii_eq_t (hE0)) (by decide) (by decide) kt) ?_
    show Goes p e below s _ _ _ (T4.setTop (mkF m 52 #[.val (.ref a1), .val (.int dd), .val (.int (15 : Int32)), .val (.int (own_e dd 0))] []))
    refine Goes.pre (fun t kt => XS.iloadN X4.here hx rfl (hb hby d9_52) rfl kt) ?_
    show Goes p e below s _ _ _ (T4.setTop (mkF m 53 #[.val (.ref a1), .val (.int dd), .val (.int (15 : Int32)), .val (.int (own_e dd 0))] [(.int (own_e dd 0))]))
    refine Goes.ret X4 (some (.int (own_e dd 0))) (fun h => by rw [Bd.returns] at h; cases h) (BodyLoose.notSynchronized Bd) (by decide) (by decide) (fun fs hr => retOut X4 hx (t := .int) Bd.returns rfl (Or.inl ⟨rfl, Or.inl rfl, _, rfl⟩) (hb hby d9_53) hr) ?_
    show Q_rmslot Z a1 dd ta da ff gg n1 h0 n0 _ T4.heap _
    rw [e4]
    exact ⟨(own_e dd 0), rfl, N0, rfl, (⟨0, by omega, rfl, fun j hj => absurd hj (Nat.not_lt_zero j), Or.inl hE0⟩)⟩
  · refine Goes.pre (fun t kt => XS.icmpNo X4.here hx rfl (hb hby d9_25) rfl (Jvm.Free.XT.ii_eq_f (hE0)) kt) ?_
    show Goes p e below s _ _ _ (T4.setTop (mkF m 28 #[.val (.ref a1), .val (.int dd), .val (.int (15 : Int32)), .val (.int (own_e dd 0))] []))
    refine Goes.pre (fun t kt => XS.aloadN X4.here hx rfl (hb hby d9_28) rfl rfl kt) ?_
    show Goes p e below s _ _ _ (T4.setTop (mkF m 29 #[.val (.ref a1), .val (.int dd), .val (.int (15 : Int32)), .val (.int (own_e dd 0))] [(.ref a1)]))
    obtain ⟨T6, X6, e6, st6⟩ := getF X4 hx hZ hown (host := "") (Or.inl (hw _ (List.mem_of_getElem? (i := 24) rfl))) Via.refl e4 pf_F_a1_com_example_nosograph_nosograph_ranking_DocumentSums_documents (g := (mkF m 29 #[.val (.ref a1), .val (.int dd), .val (.int (15 : Int32)), .val (.int (own_e dd 0))] [(.ref a1)])) rfl rfl (hb hby d9_29)
    refine Goes.pre st6 ?_
    show Goes p e below s _ _ _ (T6.setTop (mkF m 32 #[.val (.ref a1), .val (.int dd), .val (.int (15 : Int32)), .val (.int (own_e dd 0))] [(.ref da)]))
    refine Goes.pre (fun t kt => XS.aloadN X6.here hx rfl (hb hby d9_32) rfl rfl kt) ?_
    show Goes p e below s _ _ _ (T6.setTop (mkF m 33 #[.val (.ref a1), .val (.int dd), .val (.int (15 : Int32)), .val (.int (own_e dd 0))] [(.ref a1), (.ref da)]))
    obtain ⟨T7, X7, e7, st7⟩ := getF X6 hx hZ hown (host := "") (Or.inl (hw _ (List.mem_of_getElem? (i := 15) rfl))) Via.refl e6 pf_F_a1_com_example_nosograph_nosograph_ranking_DocumentSums_table (g := (mkF m 33 #[.val (.ref a1), .val (.int dd), .val (.int (15 : Int32)), .val (.int (own_e dd 0))] [(.ref a1), (.ref da)])) rfl rfl (hb hby d9_33)
    refine Goes.pre st7 ?_
    show Goes p e below s _ _ _ (T7.setTop (mkF m 36 #[.val (.ref a1), .val (.int dd), .val (.int (15 : Int32)), .val (.int (own_e dd 0))] [(.ref ta), (.ref da)]))
    refine Goes.pre (fun t kt => XS.iloadN X7.here hx rfl (hb hby d9_36) rfl kt) ?_
    show Goes p e below s _ _ _ (T7.setTop (mkF m 37 #[.val (.ref a1), .val (.int dd), .val (.int (15 : Int32)), .val (.int (own_e dd 0))] [(.int (own_e dd 0)), (.ref ta), (.ref da)]))
    obtain ⟨cl8, Ar8, aS8, aN8, aH8⟩ := In5
    have In8 : OwnI Z h0 ta (16 : Int32) ff := ⟨cl8, Ar8, aS8, aN8, aH8⟩
    have hin8 : ¬ ((own_e dd 0) < 0 ∨ cl8.slots.size ≤ ((own_e dd 0)).toNatClampNeg) := inb_of aS8 ⟨(own_eR dd 0).1, (own_eR dd 0).2⟩
    have hat8 : cl8.slots[((own_e dd 0)).toNatClampNeg]? = some (.int (ff (own_e dd 0))) := aH8 _ (own_eR dd 0).1 (own_eR dd 0).2
    refine Goes.pre (X7.iaload hx (j := (own_e dd 0)) (v := (.int (ff (own_e dd 0)))) (by rw [e7]; exact Ar8.1) (State.isArrayOf_alike hZ.alike Ar8.2.1) Ar8.2.2 hin8 hat8 (g := (mkF m 37 #[.val (.ref a1), .val (.int dd), .val (.int (15 : Int32)), .val (.int (own_e dd 0))] [(.int (own_e dd 0)), (.ref ta), (.ref da)])) rfl rfl (hb hby d9_37)) ?_
    show Goes p e below s _ _ _ (T7.setTop (mkF m 38 #[.val (.ref a1), .val (.int dd), .val (.int (15 : Int32)), .val (.int (own_e dd 0))] [(.int (ff (own_e dd 0))), (.ref da)]))
    obtain ⟨cl9, Ar9, aS9, aN9, aH9⟩ := pf_I_da
    have In9 : OwnI Z h0 da (8 : Int32) gg := ⟨cl9, Ar9, aS9, aN9, aH9⟩
    have hin9 : ¬ ((ff (own_e dd 0)) < 0 ∨ cl9.slots.size ≤ ((ff (own_e dd 0))).toNatClampNeg) := inb_of aS9 ⟨(own_place hI (own_eR dd 0) hE0).1, (own_place hI (own_eR dd 0) hE0).2⟩
    have hat9 : cl9.slots[((ff (own_e dd 0))).toNatClampNeg]? = some (.int (gg (ff (own_e dd 0)))) := aH9 _ (own_place hI (own_eR dd 0) hE0).1 (own_place hI (own_eR dd 0) hE0).2
    refine Goes.pre (X7.iaload hx (j := (ff (own_e dd 0))) (v := (.int (gg (ff (own_e dd 0))))) (by rw [e7]; exact Ar9.1) (State.isArrayOf_alike hZ.alike Ar9.2.1) Ar9.2.2 hin9 hat9 (g := (mkF m 38 #[.val (.ref a1), .val (.int dd), .val (.int (15 : Int32)), .val (.int (own_e dd 0))] [(.int (ff (own_e dd 0))), (.ref da)])) rfl rfl (hb hby d9_38)) ?_
    show Goes p e below s _ _ _ (T7.setTop (mkF m 39 #[.val (.ref a1), .val (.int dd), .val (.int (15 : Int32)), .val (.int (own_e dd 0))] [(.int (gg (ff (own_e dd 0))))]))
    refine Goes.pre (fun t kt => XS.iloadN X7.here hx rfl (hb hby d9_39) rfl kt) ?_
    show Goes p e below s _ _ _ (T7.setTop (mkF m 40 #[.val (.ref a1), .val (.int dd), .val (.int (15 : Int32)), .val (.int (own_e dd 0))] [(.int dd), (.int (gg (ff (own_e dd 0))))]))
    by_cases hD0 : (gg (ff (own_e dd 0))) = dd
    · refine Goes.pre (fun t kt => XS.icmpYes X7.here hx rfl (pc0 := 40) (pc' := 52) rfl (hb hby d9_40) rfl (Jvm.Free.XT.ii_eq_t (hD0)) (by decide) (by decide) kt) ?_
      show Goes p e below s _ _ _ (T7.setTop (mkF m 52 #[.val (.ref a1), .val (.int dd), .val (.int (15 : Int32)), .val (.int (own_e dd 0))] []))
      refine Goes.pre (fun t kt => XS.iloadN X7.here hx rfl (hb hby d9_52) rfl kt) ?_
      show Goes p e below s _ _ _ (T7.setTop (mkF m 53 #[.val (.ref a1), .val (.int dd), .val (.int (15 : Int32)), .val (.int (own_e dd 0))] [(.int (own_e dd 0))]))
      refine Goes.ret X7 (some (.int (own_e dd 0))) (fun h => by rw [Bd.returns] at h; cases h) (BodyLoose.notSynchronized Bd) (by decide) (by decide) (fun fs hr => retOut X7 hx (t := .int) Bd.returns rfl (Or.inl ⟨rfl, Or.inl rfl, _, rfl⟩) (hb hby d9_53) hr) ?_
      show Q_rmslot Z a1 dd ta da ff gg n1 h0 n0 _ T7.heap _
      rw [e7]
      exact ⟨(own_e dd 0), rfl, N0, rfl, (⟨0, by omega, rfl, fun j hj => absurd hj (Nat.not_lt_zero j), Or.inr hD0⟩)⟩
    · refine Goes.pre (fun t kt => XS.icmpNo X7.here hx rfl (hb hby d9_40) rfl (Jvm.Free.XT.ii_eq_f (hD0)) kt) ?_
      show Goes p e below s _ _ _ (T7.setTop (mkF m 43 #[.val (.ref a1), .val (.int dd), .val (.int (15 : Int32)), .val (.int (own_e dd 0))] []))
      refine Goes.pre (fun t kt => XS.iloadN X7.here hx rfl (hb hby d9_43) rfl kt) ?_
      show Goes p e below s _ _ _ (T7.setTop (mkF m 44 #[.val (.ref a1), .val (.int dd), .val (.int (15 : Int32)), .val (.int (own_e dd 0))] [(.int (own_e dd 0))]))
      refine Goes.pre (fun t kt => XS.iconst X7.here hx rfl (hb hby d9_44) kt) ?_
      show Goes p e below s _ _ _ (T7.setTop (mkF m 45 #[.val (.ref a1), .val (.int dd), .val (.int (15 : Int32)), .val (.int (own_e dd 0))] [(.int (1 : Int32)), (.int (own_e dd 0))]))
      refine Goes.pre (fun t kt => XS.iadd X7.here hx rfl (hb hby d9_45) rfl kt) ?_
      show Goes p e below s _ _ _ (T7.setTop (mkF m 46 #[.val (.ref a1), .val (.int dd), .val (.int (15 : Int32)), .val (.int (own_e dd 0))] [(.int ((own_e dd 0) + (1 : Int32)))]))
      refine Goes.pre (fun t kt => XS.iloadN X7.here hx rfl (hb hby d9_46) rfl kt) ?_
      show Goes p e below s _ _ _ (T7.setTop (mkF m 47 #[.val (.ref a1), .val (.int dd), .val (.int (15 : Int32)), .val (.int (own_e dd 0))] [(.int (15 : Int32)), (.int ((own_e dd 0) + (1 : Int32)))]))
      refine Goes.pre (fun t kt => XS.iand X7.here hx rfl (hb hby d9_47) rfl kt) ?_
      show Goes p e below s _ _ _ (T7.setTop (mkF m 48 #[.val (.ref a1), .val (.int dd), .val (.int (15 : Int32)), .val (.int (own_e dd 0))] [(.int (((own_e dd 0) + (1 : Int32)) &&& (15 : Int32)))]))
      refine Goes.pre (fun t kt => XS.istoreN X7.here hx rfl (hb hby d9_48) rfl (l' := #[.val (.ref a1), .val (.int dd), .val (.int (15 : Int32)), .val (.int (((own_e dd 0) + (1 : Int32)) &&& (15 : Int32)))]) rfl kt) ?_
      show Goes p e below s _ _ _ (T7.setTop (mkF m 49 #[.val (.ref a1), .val (.int dd), .val (.int (15 : Int32)), .val (.int (((own_e dd 0) + (1 : Int32)) &&& (15 : Int32)))] []))
      refine Goes.pre (fun t kt => XS.goto X7.here hx rfl (pc0 := 49) (pc' := 18) rfl (hb hby d9_49) (by decide) (by decide) kt) ?_
      show Goes p e below s _ _ _ (T7.setTop (mkF m 18 #[.val (.ref a1), .val (.int dd), .val (.int (15 : Int32)), .val (.int (((own_e dd 0) + (1 : Int32)) &&& (15 : Int32)))] []))
      show Goes p e below s _ _ _ (T7.setTop (mkF m 18 #[.val (.ref a1), .val (.int dd), .val (.int (15 : Int32)), .val (.int (own_e dd 1))] []))
      refine Goes.pre (fun t kt => XS.aloadN X7.here hx rfl (hb hby d9_18) rfl rfl kt) ?_
      show Goes p e below s _ _ _ (T7.setTop (mkF m 19 #[.val (.ref a1), .val (.int dd), .val (.int (15 : Int32)), .val (.int (own_e dd 1))] [(.ref a1)]))
      obtain ⟨T10, X10, e10, st10⟩ := getF X7 hx hZ hown (host := "") (Or.inl (hw _ (List.mem_of_getElem? (i := 15) rfl))) Via.refl e7 pf_F_a1_com_example_nosograph_nosograph_ranking_DocumentSums_table (g := (mkF m 19 #[.val (.ref a1), .val (.int dd), .val (.int (15 : Int32)), .val (.int (own_e dd 1))] [(.ref a1)])) rfl rfl (hb hby d9_19)
      refine Goes.pre st10 ?_
      show Goes p e below s _ _ _ (T10.setTop (mkF m 22 #[.val (.ref a1), .val (.int dd), .val (.int (15 : Int32)), .val (.int (own_e dd 1))] [(.ref ta)]))
      refine Goes.pre (fun t kt => XS.iloadN X10.here hx rfl (hb hby d9_22) rfl kt) ?_
      show Goes p e below s _ _ _ (T10.setTop (mkF m 23 #[.val (.ref a1), .val (.int dd), .val (.int (15 : Int32)), .val (.int (own_e dd 1))] [(.int (own_e dd 1)), (.ref ta)]))
      obtain ⟨cl11, Ar11, aS11, aN11, aH11⟩ := In8
      have In11 : OwnI Z h0 ta (16 : Int32) ff := ⟨cl11, Ar11, aS11, aN11, aH11⟩
      have hin11 : ¬ ((own_e dd 1) < 0 ∨ cl11.slots.size ≤ ((own_e dd 1)).toNatClampNeg) := inb_of aS11 ⟨(own_eR dd 1).1, (own_eR dd 1).2⟩
      have hat11 : cl11.slots[((own_e dd 1)).toNatClampNeg]? = some (.int (ff (own_e dd 1))) := aH11 _ (own_eR dd 1).1 (own_eR dd 1).2
      refine Goes.pre (X10.iaload hx (j := (own_e dd 1)) (v := (.int (ff (own_e dd 1)))) (by rw [e10]; exact Ar11.1) (State.isArrayOf_alike hZ.alike Ar11.2.1) Ar11.2.2 hin11 hat11 (g := (mkF m 23 #[.val (.ref a1), .val (.int dd), .val (.int (15 : Int32)), .val (.int (own_e dd 1))] [(.int (own_e dd 1)), (.ref ta)])) rfl rfl (hb hby d9_23)) ?_
      show Goes p e below s _ _ _ (T10.setTop (mkF m 24 #[.val (.ref a1), .val (.int dd), .val (.int (15 : Int32)), .val (.int (own_e dd 1))] [(.int (ff (own_e dd 1)))]))
      refine Goes.pre (fun t kt => XS.iconst X10.here hx rfl (hb hby d9_24) kt) ?_
      show Goes p e below s _ _ _ (T10.setTop (mkF m 25 #[.val (.ref a1), .val (.int dd), .val (.int (15 : Int32)), .val (.int (own_e dd 1))] [(.int (-1 : Int32)), (.int (ff (own_e dd 1)))]))
      by_cases hE1 : (ff (own_e dd 1)) = (-1 : Int32)
      · refine Goes.pre (fun t kt => XS.icmpYes X10.here hx rfl (pc0 := 25) (pc' := 52) rfl (hb hby d9_25) rfl (Jvm.Free.XT.ii_eq_t (hE1)) (by decide) (by decide) kt) ?_
        show Goes p e below s _ _ _ (T10.setTop (mkF m 52 #[.val (.ref a1), .val (.int dd), .val (.int (15 : Int32)), .val (.int (own_e dd 1))] []))
        refine Goes.pre (fun t kt => XS.iloadN X10.here hx rfl (hb hby d9_52) rfl kt) ?_
        show Goes p e below s _ _ _ (T10.setTop (mkF m 53 #[.val (.ref a1), .val (.int dd), .val (.int (15 : Int32)), .val (.int (own_e dd 1))] [(.int (own_e dd 1))]))
        refine Goes.ret X10 (some (.int (own_e dd 1))) (fun h => by rw [Bd.returns] at h; cases h) (BodyLoose.notSynchronized Bd) (by decide) (by decide) (fun fs hr => retOut X10 hx (t := .int) Bd.returns rfl (Or.inl ⟨rfl, Or.inl rfl, _, rfl⟩) (hb hby d9_53) hr) ?_
        show Q_rmslot Z a1 dd ta da ff gg n1 h0 n0 _ T10.heap _
        rw [e10]
        exact ⟨(own_e dd 1), rfl, N0, rfl, (⟨1, by omega, rfl, fun j hj => by match j, hj with | 0, _ => exact ⟨hE0, hD0⟩ | j + 1, hj => exact absurd hj (by omega), Or.inl hE1⟩)⟩
      · refine Goes.pre (fun t kt => XS.icmpNo X10.here hx rfl (hb hby d9_25) rfl (Jvm.Free.XT.ii_eq_f (hE1)) kt) ?_
        show Goes p e below s _ _ _ (T10.setTop (mkF m 28 #[.val (.ref a1), .val (.int dd), .val (.int (15 : Int32)), .val (.int (own_e dd 1))] []))
        refine Goes.pre (fun t kt => XS.aloadN X10.here hx rfl (hb hby d9_28) rfl rfl kt) ?_
        show Goes p e below s _ _ _ (T10.setTop (mkF m 29 #[.val (.ref a1), .val (.int dd), .val (.int (15 : Int32)), .val (.int (own_e dd 1))] [(.ref a1)]))
        obtain ⟨T12, X12, e12, st12⟩ := getF X10 hx hZ hown (host := "") (Or.inl (hw _ (List.mem_of_getElem? (i := 24) rfl))) Via.refl e10 pf_F_a1_com_example_nosograph_nosograph_ranking_DocumentSums_documents (g := (mkF m 29 #[.val (.ref a1), .val (.int dd), .val (.int (15 : Int32)), .val (.int (own_e dd 1))] [(.ref a1)])) rfl rfl (hb hby d9_29)
        refine Goes.pre st12 ?_
        show Goes p e below s _ _ _ (T12.setTop (mkF m 32 #[.val (.ref a1), .val (.int dd), .val (.int (15 : Int32)), .val (.int (own_e dd 1))] [(.ref da)]))
        refine Goes.pre (fun t kt => XS.aloadN X12.here hx rfl (hb hby d9_32) rfl rfl kt) ?_
        show Goes p e below s _ _ _ (T12.setTop (mkF m 33 #[.val (.ref a1), .val (.int dd), .val (.int (15 : Int32)), .val (.int (own_e dd 1))] [(.ref a1), (.ref da)]))
        obtain ⟨T13, X13, e13, st13⟩ := getF X12 hx hZ hown (host := "") (Or.inl (hw _ (List.mem_of_getElem? (i := 15) rfl))) Via.refl e12 pf_F_a1_com_example_nosograph_nosograph_ranking_DocumentSums_table (g := (mkF m 33 #[.val (.ref a1), .val (.int dd), .val (.int (15 : Int32)), .val (.int (own_e dd 1))] [(.ref a1), (.ref da)])) rfl rfl (hb hby d9_33)
        refine Goes.pre st13 ?_
        show Goes p e below s _ _ _ (T13.setTop (mkF m 36 #[.val (.ref a1), .val (.int dd), .val (.int (15 : Int32)), .val (.int (own_e dd 1))] [(.ref ta), (.ref da)]))
        refine Goes.pre (fun t kt => XS.iloadN X13.here hx rfl (hb hby d9_36) rfl kt) ?_
        show Goes p e below s _ _ _ (T13.setTop (mkF m 37 #[.val (.ref a1), .val (.int dd), .val (.int (15 : Int32)), .val (.int (own_e dd 1))] [(.int (own_e dd 1)), (.ref ta), (.ref da)]))
        obtain ⟨cl14, Ar14, aS14, aN14, aH14⟩ := In11
        have In14 : OwnI Z h0 ta (16 : Int32) ff := ⟨cl14, Ar14, aS14, aN14, aH14⟩
        have hin14 : ¬ ((own_e dd 1) < 0 ∨ cl14.slots.size ≤ ((own_e dd 1)).toNatClampNeg) := inb_of aS14 ⟨(own_eR dd 1).1, (own_eR dd 1).2⟩
        have hat14 : cl14.slots[((own_e dd 1)).toNatClampNeg]? = some (.int (ff (own_e dd 1))) := aH14 _ (own_eR dd 1).1 (own_eR dd 1).2
        refine Goes.pre (X13.iaload hx (j := (own_e dd 1)) (v := (.int (ff (own_e dd 1)))) (by rw [e13]; exact Ar14.1) (State.isArrayOf_alike hZ.alike Ar14.2.1) Ar14.2.2 hin14 hat14 (g := (mkF m 37 #[.val (.ref a1), .val (.int dd), .val (.int (15 : Int32)), .val (.int (own_e dd 1))] [(.int (own_e dd 1)), (.ref ta), (.ref da)])) rfl rfl (hb hby d9_37)) ?_
        show Goes p e below s _ _ _ (T13.setTop (mkF m 38 #[.val (.ref a1), .val (.int dd), .val (.int (15 : Int32)), .val (.int (own_e dd 1))] [(.int (ff (own_e dd 1))), (.ref da)]))
        obtain ⟨cl15, Ar15, aS15, aN15, aH15⟩ := In9
        have In15 : OwnI Z h0 da (8 : Int32) gg := ⟨cl15, Ar15, aS15, aN15, aH15⟩
        have hin15 : ¬ ((ff (own_e dd 1)) < 0 ∨ cl15.slots.size ≤ ((ff (own_e dd 1))).toNatClampNeg) := inb_of aS15 ⟨(own_place hI (own_eR dd 1) hE1).1, (own_place hI (own_eR dd 1) hE1).2⟩
        have hat15 : cl15.slots[((ff (own_e dd 1))).toNatClampNeg]? = some (.int (gg (ff (own_e dd 1)))) := aH15 _ (own_place hI (own_eR dd 1) hE1).1 (own_place hI (own_eR dd 1) hE1).2
        refine Goes.pre (X13.iaload hx (j := (ff (own_e dd 1))) (v := (.int (gg (ff (own_e dd 1))))) (by rw [e13]; exact Ar15.1) (State.isArrayOf_alike hZ.alike Ar15.2.1) Ar15.2.2 hin15 hat15 (g := (mkF m 38 #[.val (.ref a1), .val (.int dd), .val (.int (15 : Int32)), .val (.int (own_e dd 1))] [(.int (ff (own_e dd 1))), (.ref da)])) rfl rfl (hb hby d9_38)) ?_
        show Goes p e below s _ _ _ (T13.setTop (mkF m 39 #[.val (.ref a1), .val (.int dd), .val (.int (15 : Int32)), .val (.int (own_e dd 1))] [(.int (gg (ff (own_e dd 1))))]))
        refine Goes.pre (fun t kt => XS.iloadN X13.here hx rfl (hb hby d9_39) rfl kt) ?_
        show Goes p e below s _ _ _ (T13.setTop (mkF m 40 #[.val (.ref a1), .val (.int dd), .val (.int (15 : Int32)), .val (.int (own_e dd 1))] [(.int dd), (.int (gg (ff (own_e dd 1))))]))
        by_cases hD1 : (gg (ff (own_e dd 1))) = dd
        · refine Goes.pre (fun t kt => XS.icmpYes X13.here hx rfl (pc0 := 40) (pc' := 52) rfl (hb hby d9_40) rfl (Jvm.Free.XT.ii_eq_t (hD1)) (by decide) (by decide) kt) ?_
          show Goes p e below s _ _ _ (T13.setTop (mkF m 52 #[.val (.ref a1), .val (.int dd), .val (.int (15 : Int32)), .val (.int (own_e dd 1))] []))
          refine Goes.pre (fun t kt => XS.iloadN X13.here hx rfl (hb hby d9_52) rfl kt) ?_
          show Goes p e below s _ _ _ (T13.setTop (mkF m 53 #[.val (.ref a1), .val (.int dd), .val (.int (15 : Int32)), .val (.int (own_e dd 1))] [(.int (own_e dd 1))]))
          refine Goes.ret X13 (some (.int (own_e dd 1))) (fun h => by rw [Bd.returns] at h; cases h) (BodyLoose.notSynchronized Bd) (by decide) (by decide) (fun fs hr => retOut X13 hx (t := .int) Bd.returns rfl (Or.inl ⟨rfl, Or.inl rfl, _, rfl⟩) (hb hby d9_53) hr) ?_
          show Q_rmslot Z a1 dd ta da ff gg n1 h0 n0 _ T13.heap _
          rw [e13]
          exact ⟨(own_e dd 1), rfl, N0, rfl, (⟨1, by omega, rfl, fun j hj => by match j, hj with | 0, _ => exact ⟨hE0, hD0⟩ | j + 1, hj => exact absurd hj (by omega), Or.inr hD1⟩)⟩
        · refine Goes.pre (fun t kt => XS.icmpNo X13.here hx rfl (hb hby d9_40) rfl (Jvm.Free.XT.ii_eq_f (hD1)) kt) ?_
          show Goes p e below s _ _ _ (T13.setTop (mkF m 43 #[.val (.ref a1), .val (.int dd), .val (.int (15 : Int32)), .val (.int (own_e dd 1))] []))
          refine Goes.pre (fun t kt => XS.iloadN X13.here hx rfl (hb hby d9_43) rfl kt) ?_
          show Goes p e below s _ _ _ (T13.setTop (mkF m 44 #[.val (.ref a1), .val (.int dd), .val (.int (15 : Int32)), .val (.int (own_e dd 1))] [(.int (own_e dd 1))]))
          refine Goes.pre (fun t kt => XS.iconst X13.here hx rfl (hb hby d9_44) kt) ?_
          show Goes p e below s _ _ _ (T13.setTop (mkF m 45 #[.val (.ref a1), .val (.int dd), .val (.int (15 : Int32)), .val (.int (own_e dd 1))] [(.int (1 : Int32)), (.int (own_e dd 1))]))
          refine Goes.pre (fun t kt => XS.iadd X13.here hx rfl (hb hby d9_45) rfl kt) ?_
          show Goes p e below s _ _ _ (T13.setTop (mkF m 46 #[.val (.ref a1), .val (.int dd), .val (.int (15 : Int32)), .val (.int (own_e dd 1))] [(.int ((own_e dd 1) + (1 : Int32)))]))
          refine Goes.pre (fun t kt => XS.iloadN X13.here hx rfl (hb hby d9_46) rfl kt) ?_
          show Goes p e below s _ _ _ (T13.setTop (mkF m 47 #[.val (.ref a1), .val (.int dd), .val (.int (15 : Int32)), .val (.int (own_e dd 1))] [(.int (15 : Int32)), (.int ((own_e dd 1) + (1 : Int32)))]))
          refine Goes.pre (fun t kt => XS.iand X13.here hx rfl (hb hby d9_47) rfl kt) ?_
          show Goes p e below s _ _ _ (T13.setTop (mkF m 48 #[.val (.ref a1), .val (.int dd), .val (.int (15 : Int32)), .val (.int (own_e dd 1))] [(.int (((own_e dd 1) + (1 : Int32)) &&& (15 : Int32)))]))
          refine Goes.pre (fun t kt => XS.istoreN X13.here hx rfl (hb hby d9_48) rfl (l' := #[.val (.ref a1), .val (.int dd), .val (.int (15 : Int32)), .val (.int (((own_e dd 1) + (1 : Int32)) &&& (15 : Int32)))]) rfl kt) ?_
          show Goes p e below s _ _ _ (T13.setTop (mkF m 49 #[.val (.ref a1), .val (.int dd), .val (.int (15 : Int32)), .val (.int (((own_e dd 1) + (1 : Int32)) &&& (15 : Int32)))] []))
          refine Goes.pre (fun t kt => XS.goto X13.here hx rfl (pc0 := 49) (pc' := 18) rfl (hb hby d9_49) (by decide) (by decide) kt) ?_
          show Goes p e below s _ _ _ (T13.setTop (mkF m 18 #[.val (.ref a1), .val (.int dd), .val (.int (15 : Int32)), .val (.int (((own_e dd 1) + (1 : Int32)) &&& (15 : Int32)))] []))
          show Goes p e below s _ _ _ (T13.setTop (mkF m 18 #[.val (.ref a1), .val (.int dd), .val (.int (15 : Int32)), .val (.int (own_e dd 2))] []))
          refine Goes.pre (fun t kt => XS.aloadN X13.here hx rfl (hb hby d9_18) rfl rfl kt) ?_
          show Goes p e below s _ _ _ (T13.setTop (mkF m 19 #[.val (.ref a1), .val (.int dd), .val (.int (15 : Int32)), .val (.int (own_e dd 2))] [(.ref a1)]))
          obtain ⟨T16, X16, e16, st16⟩ := getF X13 hx hZ hown (host := "") (Or.inl (hw _ (List.mem_of_getElem? (i := 15) rfl))) Via.refl e13 pf_F_a1_com_example_nosograph_nosograph_ranking_DocumentSums_table (g := (mkF m 19 #[.val (.ref a1), .val (.int dd), .val (.int (15 : Int32)), .val (.int (own_e dd 2))] [(.ref a1)])) rfl rfl (hb hby d9_19)
          refine Goes.pre st16 ?_
          show Goes p e below s _ _ _ (T16.setTop (mkF m 22 #[.val (.ref a1), .val (.int dd), .val (.int (15 : Int32)), .val (.int (own_e dd 2))] [(.ref ta)]))
          refine Goes.pre (fun t kt => XS.iloadN X16.here hx rfl (hb hby d9_22) rfl kt) ?_
          show Goes p e below s _ _ _ (T16.setTop (mkF m 23 #[.val (.ref a1), .val (.int dd), .val (.int (15 : Int32)), .val (.int (own_e dd 2))] [(.int (own_e dd 2)), (.ref ta)]))
          obtain ⟨cl17, Ar17, aS17, aN17, aH17⟩ := In14
          have In17 : OwnI Z h0 ta (16 : Int32) ff := ⟨cl17, Ar17, aS17, aN17, aH17⟩
          have hin17 : ¬ ((own_e dd 2) < 0 ∨ cl17.slots.size ≤ ((own_e dd 2)).toNatClampNeg) := inb_of aS17 ⟨(own_eR dd 2).1, (own_eR dd 2).2⟩
          have hat17 : cl17.slots[((own_e dd 2)).toNatClampNeg]? = some (.int (ff (own_e dd 2))) := aH17 _ (own_eR dd 2).1 (own_eR dd 2).2
          refine Goes.pre (X16.iaload hx (j := (own_e dd 2)) (v := (.int (ff (own_e dd 2)))) (by rw [e16]; exact Ar17.1) (State.isArrayOf_alike hZ.alike Ar17.2.1) Ar17.2.2 hin17 hat17 (g := (mkF m 23 #[.val (.ref a1), .val (.int dd), .val (.int (15 : Int32)), .val (.int (own_e dd 2))] [(.int (own_e dd 2)), (.ref ta)])) rfl rfl (hb hby d9_23)) ?_
          show Goes p e below s _ _ _ (T16.setTop (mkF m 24 #[.val (.ref a1), .val (.int dd), .val (.int (15 : Int32)), .val (.int (own_e dd 2))] [(.int (ff (own_e dd 2)))]))
          refine Goes.pre (fun t kt => XS.iconst X16.here hx rfl (hb hby d9_24) kt) ?_
          show Goes p e below s _ _ _ (T16.setTop (mkF m 25 #[.val (.ref a1), .val (.int dd), .val (.int (15 : Int32)), .val (.int (own_e dd 2))] [(.int (-1 : Int32)), (.int (ff (own_e dd 2)))]))
          by_cases hE2 : (ff (own_e dd 2)) = (-1 : Int32)
          · refine Goes.pre (fun t kt => XS.icmpYes X16.here hx rfl (pc0 := 25) (pc' := 52) rfl (hb hby d9_25) rfl (Jvm.Free.XT.ii_eq_t (hE2)) (by decide) (by decide) kt) ?_
            show Goes p e below s _ _ _ (T16.setTop (mkF m 52 #[.val (.ref a1), .val (.int dd), .val (.int (15 : Int32)), .val (.int (own_e dd 2))] []))
            refine Goes.pre (fun t kt => XS.iloadN X16.here hx rfl (hb hby d9_52) rfl kt) ?_
            show Goes p e below s _ _ _ (T16.setTop (mkF m 53 #[.val (.ref a1), .val (.int dd), .val (.int (15 : Int32)), .val (.int (own_e dd 2))] [(.int (own_e dd 2))]))
            refine Goes.ret X16 (some (.int (own_e dd 2))) (fun h => by rw [Bd.returns] at h; cases h) (BodyLoose.notSynchronized Bd) (by decide) (by decide) (fun fs hr => retOut X16 hx (t := .int) Bd.returns rfl (Or.inl ⟨rfl, Or.inl rfl, _, rfl⟩) (hb hby d9_53) hr) ?_
            show Q_rmslot Z a1 dd ta da ff gg n1 h0 n0 _ T16.heap _
            rw [e16]
            exact ⟨(own_e dd 2), rfl, N0, rfl, (⟨2, by omega, rfl, fun j hj => by match j, hj with | 0, _ => exact ⟨hE0, hD0⟩ | 1, _ => exact ⟨hE1, hD1⟩ | j + 2, hj => exact absurd hj (by omega), Or.inl hE2⟩)⟩
          · refine Goes.pre (fun t kt => XS.icmpNo X16.here hx rfl (hb hby d9_25) rfl (Jvm.Free.XT.ii_eq_f (hE2)) kt) ?_
            show Goes p e below s _ _ _ (T16.setTop (mkF m 28 #[.val (.ref a1), .val (.int dd), .val (.int (15 : Int32)), .val (.int (own_e dd 2))] []))
            refine Goes.pre (fun t kt => XS.aloadN X16.here hx rfl (hb hby d9_28) rfl rfl kt) ?_
            show Goes p e below s _ _ _ (T16.setTop (mkF m 29 #[.val (.ref a1), .val (.int dd), .val (.int (15 : Int32)), .val (.int (own_e dd 2))] [(.ref a1)]))
            obtain ⟨T18, X18, e18, st18⟩ := getF X16 hx hZ hown (host := "") (Or.inl (hw _ (List.mem_of_getElem? (i := 24) rfl))) Via.refl e16 pf_F_a1_com_example_nosograph_nosograph_ranking_DocumentSums_documents (g := (mkF m 29 #[.val (.ref a1), .val (.int dd), .val (.int (15 : Int32)), .val (.int (own_e dd 2))] [(.ref a1)])) rfl rfl (hb hby d9_29)
            refine Goes.pre st18 ?_
            show Goes p e below s _ _ _ (T18.setTop (mkF m 32 #[.val (.ref a1), .val (.int dd), .val (.int (15 : Int32)), .val (.int (own_e dd 2))] [(.ref da)]))
            refine Goes.pre (fun t kt => XS.aloadN X18.here hx rfl (hb hby d9_32) rfl rfl kt) ?_
            show Goes p e below s _ _ _ (T18.setTop (mkF m 33 #[.val (.ref a1), .val (.int dd), .val (.int (15 : Int32)), .val (.int (own_e dd 2))] [(.ref a1), (.ref da)]))
            obtain ⟨T19, X19, e19, st19⟩ := getF X18 hx hZ hown (host := "") (Or.inl (hw _ (List.mem_of_getElem? (i := 15) rfl))) Via.refl e18 pf_F_a1_com_example_nosograph_nosograph_ranking_DocumentSums_table (g := (mkF m 33 #[.val (.ref a1), .val (.int dd), .val (.int (15 : Int32)), .val (.int (own_e dd 2))] [(.ref a1), (.ref da)])) rfl rfl (hb hby d9_33)
            refine Goes.pre st19 ?_
            show Goes p e below s _ _ _ (T19.setTop (mkF m 36 #[.val (.ref a1), .val (.int dd), .val (.int (15 : Int32)), .val (.int (own_e dd 2))] [(.ref ta), (.ref da)]))
            refine Goes.pre (fun t kt => XS.iloadN X19.here hx rfl (hb hby d9_36) rfl kt) ?_
            show Goes p e below s _ _ _ (T19.setTop (mkF m 37 #[.val (.ref a1), .val (.int dd), .val (.int (15 : Int32)), .val (.int (own_e dd 2))] [(.int (own_e dd 2)), (.ref ta), (.ref da)]))
            obtain ⟨cl20, Ar20, aS20, aN20, aH20⟩ := In17
            have In20 : OwnI Z h0 ta (16 : Int32) ff := ⟨cl20, Ar20, aS20, aN20, aH20⟩
            have hin20 : ¬ ((own_e dd 2) < 0 ∨ cl20.slots.size ≤ ((own_e dd 2)).toNatClampNeg) := inb_of aS20 ⟨(own_eR dd 2).1, (own_eR dd 2).2⟩
            have hat20 : cl20.slots[((own_e dd 2)).toNatClampNeg]? = some (.int (ff (own_e dd 2))) := aH20 _ (own_eR dd 2).1 (own_eR dd 2).2
            refine Goes.pre (X19.iaload hx (j := (own_e dd 2)) (v := (.int (ff (own_e dd 2)))) (by rw [e19]; exact Ar20.1) (State.isArrayOf_alike hZ.alike Ar20.2.1) Ar20.2.2 hin20 hat20 (g := (mkF m 37 #[.val (.ref a1), .val (.int dd), .val (.int (15 : Int32)), .val (.int (own_e dd 2))] [(.int (own_e dd 2)), (.ref ta), (.ref da)])) rfl rfl (hb hby d9_37)) ?_
            show Goes p e below s _ _ _ (T19.setTop (mkF m 38 #[.val (.ref a1), .val (.int dd), .val (.int (15 : Int32)), .val (.int (own_e dd 2))] [(.int (ff (own_e dd 2))), (.ref da)]))
            obtain ⟨cl21, Ar21, aS21, aN21, aH21⟩ := In15
            have In21 : OwnI Z h0 da (8 : Int32) gg := ⟨cl21, Ar21, aS21, aN21, aH21⟩
            have hin21 : ¬ ((ff (own_e dd 2)) < 0 ∨ cl21.slots.size ≤ ((ff (own_e dd 2))).toNatClampNeg) := inb_of aS21 ⟨(own_place hI (own_eR dd 2) hE2).1, (own_place hI (own_eR dd 2) hE2).2⟩
            have hat21 : cl21.slots[((ff (own_e dd 2))).toNatClampNeg]? = some (.int (gg (ff (own_e dd 2)))) := aH21 _ (own_place hI (own_eR dd 2) hE2).1 (own_place hI (own_eR dd 2) hE2).2
            refine Goes.pre (X19.iaload hx (j := (ff (own_e dd 2))) (v := (.int (gg (ff (own_e dd 2))))) (by rw [e19]; exact Ar21.1) (State.isArrayOf_alike hZ.alike Ar21.2.1) Ar21.2.2 hin21 hat21 (g := (mkF m 38 #[.val (.ref a1), .val (.int dd), .val (.int (15 : Int32)), .val (.int (own_e dd 2))] [(.int (ff (own_e dd 2))), (.ref da)])) rfl rfl (hb hby d9_38)) ?_
            show Goes p e below s _ _ _ (T19.setTop (mkF m 39 #[.val (.ref a1), .val (.int dd), .val (.int (15 : Int32)), .val (.int (own_e dd 2))] [(.int (gg (ff (own_e dd 2))))]))
            refine Goes.pre (fun t kt => XS.iloadN X19.here hx rfl (hb hby d9_39) rfl kt) ?_
            show Goes p e below s _ _ _ (T19.setTop (mkF m 40 #[.val (.ref a1), .val (.int dd), .val (.int (15 : Int32)), .val (.int (own_e dd 2))] [(.int dd), (.int (gg (ff (own_e dd 2))))]))
            by_cases hD2 : (gg (ff (own_e dd 2))) = dd
            · refine Goes.pre (fun t kt => XS.icmpYes X19.here hx rfl (pc0 := 40) (pc' := 52) rfl (hb hby d9_40) rfl (Jvm.Free.XT.ii_eq_t (hD2)) (by decide) (by decide) kt) ?_
              show Goes p e below s _ _ _ (T19.setTop (mkF m 52 #[.val (.ref a1), .val (.int dd), .val (.int (15 : Int32)), .val (.int (own_e dd 2))] []))
              refine Goes.pre (fun t kt => XS.iloadN X19.here hx rfl (hb hby d9_52) rfl kt) ?_
              show Goes p e below s _ _ _ (T19.setTop (mkF m 53 #[.val (.ref a1), .val (.int dd), .val (.int (15 : Int32)), .val (.int (own_e dd 2))] [(.int (own_e dd 2))]))
              refine Goes.ret X19 (some (.int (own_e dd 2))) (fun h => by rw [Bd.returns] at h; cases h) (BodyLoose.notSynchronized Bd) (by decide) (by decide) (fun fs hr => retOut X19 hx (t := .int) Bd.returns rfl (Or.inl ⟨rfl, Or.inl rfl, _, rfl⟩) (hb hby d9_53) hr) ?_
              show Q_rmslot Z a1 dd ta da ff gg n1 h0 n0 _ T19.heap _
              rw [e19]
              exact ⟨(own_e dd 2), rfl, N0, rfl, (⟨2, by omega, rfl, fun j hj => by match j, hj with | 0, _ => exact ⟨hE0, hD0⟩ | 1, _ => exact ⟨hE1, hD1⟩ | j + 2, hj => exact absurd hj (by omega), Or.inr hD2⟩)⟩
            · refine Goes.pre (fun t kt => XS.icmpNo X19.here hx rfl (hb hby d9_40) rfl (Jvm.Free.XT.ii_eq_f (hD2)) kt) ?_
              show Goes p e below s _ _ _ (T19.setTop (mkF m 43 #[.val (.ref a1), .val (.int dd), .val (.int (15 : Int32)), .val (.int (own_e dd 2))] []))
              refine Goes.pre (fun t kt => XS.iloadN X19.here hx rfl (hb hby d9_43) rfl kt) ?_
              show Goes p e below s _ _ _ (T19.setTop (mkF m 44 #[.val (.ref a1), .val (.int dd), .val (.int (15 : Int32)), .val (.int (own_e dd 2))] [(.int (own_e dd 2))]))
              refine Goes.pre (fun t kt => XS.iconst X19.here hx rfl (hb hby d9_44) kt) ?_
              show Goes p e below s _ _ _ (T19.setTop (mkF m 45 #[.val (.ref a1), .val (.int dd), .val (.int (15 : Int32)), .val (.int (own_e dd 2))] [(.int (1 : Int32)), (.int (own_e dd 2))]))
              refine Goes.pre (fun t kt => XS.iadd X19.here hx rfl (hb hby d9_45) rfl kt) ?_
              show Goes p e below s _ _ _ (T19.setTop (mkF m 46 #[.val (.ref a1), .val (.int dd), .val (.int (15 : Int32)), .val (.int (own_e dd 2))] [(.int ((own_e dd 2) + (1 : Int32)))]))
              refine Goes.pre (fun t kt => XS.iloadN X19.here hx rfl (hb hby d9_46) rfl kt) ?_
              show Goes p e below s _ _ _ (T19.setTop (mkF m 47 #[.val (.ref a1), .val (.int dd), .val (.int (15 : Int32)), .val (.int (own_e dd 2))] [(.int (15 : Int32)), (.int ((own_e dd 2) + (1 : Int32)))]))
              refine Goes.pre (fun t kt => XS.iand X19.here hx rfl (hb hby d9_47) rfl kt) ?_
              show Goes p e below s _ _ _ (T19.setTop (mkF m 48 #[.val (.ref a1), .val (.int dd), .val (.int (15 : Int32)), .val (.int (own_e dd 2))] [(.int (((own_e dd 2) + (1 : Int32)) &&& (15 : Int32)))]))
              refine Goes.pre (fun t kt => XS.istoreN X19.here hx rfl (hb hby d9_48) rfl (l' := #[.val (.ref a1), .val (.int dd), .val (.int (15 : Int32)), .val (.int (((own_e dd 2) + (1 : Int32)) &&& (15 : Int32)))]) rfl kt) ?_
              show Goes p e below s _ _ _ (T19.setTop (mkF m 49 #[.val (.ref a1), .val (.int dd), .val (.int (15 : Int32)), .val (.int (((own_e dd 2) + (1 : Int32)) &&& (15 : Int32)))] []))
              refine Goes.pre (fun t kt => XS.goto X19.here hx rfl (pc0 := 49) (pc' := 18) rfl (hb hby d9_49) (by decide) (by decide) kt) ?_
              show Goes p e below s _ _ _ (T19.setTop (mkF m 18 #[.val (.ref a1), .val (.int dd), .val (.int (15 : Int32)), .val (.int (((own_e dd 2) + (1 : Int32)) &&& (15 : Int32)))] []))
              show Goes p e below s _ _ _ (T19.setTop (mkF m 18 #[.val (.ref a1), .val (.int dd), .val (.int (15 : Int32)), .val (.int (own_e dd 3))] []))
              refine Goes.pre (fun t kt => XS.aloadN X19.here hx rfl (hb hby d9_18) rfl rfl kt) ?_
              show Goes p e below s _ _ _ (T19.setTop (mkF m 19 #[.val (.ref a1), .val (.int dd), .val (.int (15 : Int32)), .val (.int (own_e dd 3))] [(.ref a1)]))
              obtain ⟨T22, X22, e22, st22⟩ := getF X19 hx hZ hown (host := "") (Or.inl (hw _ (List.mem_of_getElem? (i := 15) rfl))) Via.refl e19 pf_F_a1_com_example_nosograph_nosograph_ranking_DocumentSums_table (g := (mkF m 19 #[.val (.ref a1), .val (.int dd), .val (.int (15 : Int32)), .val (.int (own_e dd 3))] [(.ref a1)])) rfl rfl (hb hby d9_19)
              refine Goes.pre st22 ?_
              show Goes p e below s _ _ _ (T22.setTop (mkF m 22 #[.val (.ref a1), .val (.int dd), .val (.int (15 : Int32)), .val (.int (own_e dd 3))] [(.ref ta)]))
              refine Goes.pre (fun t kt => XS.iloadN X22.here hx rfl (hb hby d9_22) rfl kt) ?_
              show Goes p e below s _ _ _ (T22.setTop (mkF m 23 #[.val (.ref a1), .val (.int dd), .val (.int (15 : Int32)), .val (.int (own_e dd 3))] [(.int (own_e dd 3)), (.ref ta)]))
              obtain ⟨cl23, Ar23, aS23, aN23, aH23⟩ := In20
              have In23 : OwnI Z h0 ta (16 : Int32) ff := ⟨cl23, Ar23, aS23, aN23, aH23⟩
              have hin23 : ¬ ((own_e dd 3) < 0 ∨ cl23.slots.size ≤ ((own_e dd 3)).toNatClampNeg) := inb_of aS23 ⟨(own_eR dd 3).1, (own_eR dd 3).2⟩
              have hat23 : cl23.slots[((own_e dd 3)).toNatClampNeg]? = some (.int (ff (own_e dd 3))) := aH23 _ (own_eR dd 3).1 (own_eR dd 3).2
              refine Goes.pre (X22.iaload hx (j := (own_e dd 3)) (v := (.int (ff (own_e dd 3)))) (by rw [e22]; exact Ar23.1) (State.isArrayOf_alike hZ.alike Ar23.2.1) Ar23.2.2 hin23 hat23 (g := (mkF m 23 #[.val (.ref a1), .val (.int dd), .val (.int (15 : Int32)), .val (.int (own_e dd 3))] [(.int (own_e dd 3)), (.ref ta)])) rfl rfl (hb hby d9_23)) ?_
              show Goes p e below s _ _ _ (T22.setTop (mkF m 24 #[.val (.ref a1), .val (.int dd), .val (.int (15 : Int32)), .val (.int (own_e dd 3))] [(.int (ff (own_e dd 3)))]))
              refine Goes.pre (fun t kt => XS.iconst X22.here hx rfl (hb hby d9_24) kt) ?_
              show Goes p e below s _ _ _ (T22.setTop (mkF m 25 #[.val (.ref a1), .val (.int dd), .val (.int (15 : Int32)), .val (.int (own_e dd 3))] [(.int (-1 : Int32)), (.int (ff (own_e dd 3)))]))
              refine Goes.pre (fun t kt => XS.icmpYes X22.here hx rfl (pc0 := 25) (pc' := 52) rfl (hb hby d9_25) rfl (Jvm.Free.XT.ii_eq_t ((own_free hI hE0 hE1 hE2))) (by decide) (by decide) kt) ?_
              show Goes p e below s _ _ _ (T22.setTop (mkF m 52 #[.val (.ref a1), .val (.int dd), .val (.int (15 : Int32)), .val (.int (own_e dd 3))] []))
              refine Goes.pre (fun t kt => XS.iloadN X22.here hx rfl (hb hby d9_52) rfl kt) ?_
              show Goes p e below s _ _ _ (T22.setTop (mkF m 53 #[.val (.ref a1), .val (.int dd), .val (.int (15 : Int32)), .val (.int (own_e dd 3))] [(.int (own_e dd 3))]))
              refine Goes.ret X22 (some (.int (own_e dd 3))) (fun h => by rw [Bd.returns] at h; cases h) (BodyLoose.notSynchronized Bd) (by decide) (by decide) (fun fs hr => retOut X22 hx (t := .int) Bd.returns rfl (Or.inl ⟨rfl, Or.inl rfl, _, rfl⟩) (hb hby d9_53) hr) ?_
              show Q_rmslot Z a1 dd ta da ff gg n1 h0 n0 _ T22.heap _
              rw [e22]
              exact ⟨(own_e dd 3), rfl, N0, rfl, (⟨3, by omega, rfl, fun j hj => by match j, hj with | 0, _ => exact ⟨hE0, hD0⟩ | 1, _ => exact ⟨hE1, hD1⟩ | 2, _ => exact ⟨hE2, hD2⟩ | j + 3, hj => exact absurd hj (by omega), Or.inl (own_free hI hE0 hE1 hE2)⟩)⟩
theorem d15_0 : decode prog_56_method_3_code 0 = .ok (.aload_n 0, 1) := by decide +kernel
theorem d15_1 : decode prog_56_method_3_code 1 = .ok (.getfield 9, 3) := by decide +kernel
theorem d15_4 : decode prog_56_method_3_code 4 = .ok (.aload_n 0, 1) := by decide +kernel
theorem d15_5 : decode prog_56_method_3_code 5 = .ok (.iload_n 1, 1) := by decide +kernel
theorem d15_6 : decode prog_56_method_3_code 6 = .ok (.invokevirtual 48, 3) := by decide +kernel
theorem own_selp {s : State} {args a1 : Array Value} {y : MethodName} {kk : Nat} (wi : (Jvm.Cond.instantiable y.cls kk).before a1 s = true) (hp : s.PrivateAt y) (hi : (Jvm.Cond.instanceMethod y).before args s = true) (hy : y.cls ≠ "java/lang/invoke/MethodHandle" ∧ y.cls ≠ "java/lang/invoke/VarHandle") : (Jvm.Cond.selects y.cls y y).before args s = true := by
  obtain ⟨c, k, h1, h2, -, h4, -⟩ := Cond.instantiable_spec wi
  exact Jvm.Stand.selects_self_of_private h1 h2 (by simp only [Bool.or_eq_false_iff] at h4; exact h4.1) hp hi hy
theorem d15_9 : decode prog_56_method_3_code 9 = .ok (.iaload, 1) := by decide +kernel
theorem d15_10 : decode prog_56_method_3_code 10 = .ok (.istore_n 2, 1) := by decide +kernel
theorem d15_11 : decode prog_56_method_3_code 11 = .ok (.iload_n 2, 1) := by decide +kernel
theorem d15_12 : decode prog_56_method_3_code 12 = .ok (.iconst (-1), 1) := by decide +kernel
theorem d15_13 : decode prog_56_method_3_code 13 = .ok (.if_icmp .ne 7, 3) := by decide +kernel
theorem d15_16 : decode prog_56_method_3_code 16 = .ok (.dconst 0, 1) := by decide +kernel
theorem d15_17 : decode prog_56_method_3_code 17 = .ok (.goto 9, 3) := by decide +kernel
theorem d15_26 : decode prog_56_method_3_code 26 = .ok (.dreturn, 1) := by decide +kernel
theorem d15_20 : decode prog_56_method_3_code 20 = .ok (.aload_n 0, 1) := by decide +kernel
theorem d15_21 : decode prog_56_method_3_code 21 = .ok (.getfield 26, 3) := by decide +kernel
theorem d15_24 : decode prog_56_method_3_code 24 = .ok (.iload_n 2, 1) := by decide +kernel
theorem d15_25 : decode prog_56_method_3_code 25 = .ok (.daload, 1) := by decide +kernel
def Q_rmget (Z : State) (a1 : Addr) (dd : Int32) (ta : Addr) (da : Addr) (sa : Addr) (ff : (Int32 → Int32)) (gg : (Int32 → Int32)) (FF : (Int32 → UInt64)) (n1 : Nat) (MM : (Int32 → Int64)) (h0 : Heap) (n0 : Nat) (v : Option Value) (h : Heap) (L : List Loc) : Prop := v = some (.double (FP.l2d (MM dd))) ∧ Fr n0 L ∧ h = h0
theorem ef_rmget (m : MethodId) (a1 : Addr) (dd : Int32) : entryFrame m #[(.ref a1), (.int dd)] 3 = mkF m 0 #[.val (.ref a1), .val (.int dd), .unset] [] := by first | (simp [entryFrame, mkF, argsToLocals, Value.category]; done) | rfl
set_option maxRecDepth 65536 in
set_option maxHeartbeats 40000000 in
theorem rmget (l : Launch) (Z : State) (a0 : Array Value) (hw : ∀ d ∈ tables_1, d.before a0 Z = true) (ws : List Jvm.Cond) (a1 : Addr) (dd : Int32) (ta : Addr) (da : Addr) (sa : Addr) (ff : (Int32 → Int32)) (gg : (Int32 → Int32)) (FF : (Int32 → UInt64)) (n1 : Nat) (MM : (Int32 → Int64)) (h0 : Heap) (n0 : Nat) (Z0 : n0 ≤ h0.size) (pf_E_a1 : Exa Z h0 a1 "com/example/nosograph/nosograph/ranking/DocumentSums") (pf_F_a1_com_example_nosograph_nosograph_ranking_DocumentSums_table : Fld Z h0 a1 "com/example/nosograph/nosograph/ranking/DocumentSums" "table" "[I" (.ref ta)) (pf_F_a1_com_example_nosograph_nosograph_ranking_DocumentSums_shift : Fld Z h0 a1 "com/example/nosograph/nosograph/ranking/DocumentSums" "shift" "I" (.int (28 : Int32))) (pf_F_a1_com_example_nosograph_nosograph_ranking_DocumentSums_documents : Fld Z h0 a1 "com/example/nosograph/nosograph/ranking/DocumentSums" "documents" "[I" (.ref da)) (pf_F_a1_com_example_nosograph_nosograph_ranking_DocumentSums_sums : Fld Z h0 a1 "com/example/nosograph/nosograph/ranking/DocumentSums" "sums" "[D" (.ref sa)) (pf_I_ta : OwnI Z h0 ta (16 : Int32) ff) (pf_I_da : OwnI Z h0 da (8 : Int32) gg) (pf_B_sa : OwnD Z h0 sa (8 : Int32) FF) (hR : own_rep ff gg FF n1 MM) :
    MetFree l (⟨"com/example/nosograph/nosograph/ranking/DocumentSums", "get", "(I)D"⟩ : MethodName) (head1 (Jvm.Cond.code (⟨"com/example/nosograph/nosograph/ranking/DocumentSums", "get", "(I)D"⟩ : MethodName) prog_56_method_3_code 3 (some .double) :: ws) ({ frames := 1, cells := 0, slots := 0, locals := 16 } : Room)) (fun a U => a = #[(.ref a1), (.int dd)] ∧ Z.Warmed39 U.vm ∧ U.heap = h0) (fun _ _ _ _ _ => True) (fun _ U o U' => ∃ v L, o = .returned v ∧ Q_rmget Z a1 dd ta da sa ff gg FF n1 MM h0 n0 v U'.heap L ∧ FrameEnd U o U' L ({ frames := 1, cells := 0, slots := 0, locals := 16 } : Room).cells ({ frames := 1, cells := 0, slots := 0, locals := 16 } : Room).slots) := by
  refine MetFree.of_bodySF (plainFor_of_name pn_4) hisR ?_
  intro p e s m args below meth c s₁ Bd hml0 hP hK
  obtain ⟨rfl, hZ, hh⟩ := hP
  have hx := Bd.exec
  have hby := Bd.bytes
  have hml : c.maxLocals = 3 := hml0
  have hown : s.vm.findClass "com/example/nosograph/nosograph/ranking/DocumentSums" = some m.cls := findClass_of_methodNamed Bd.named
  have hnm := (name_of_methodNamed Bd.named Bd.method).1
  have X0 : Stand p l e ({ frames := 1, cells := 0, slots := 0, locals := 16 } : Room) s m #[(.ref a1), (.int dd)] below meth c s₁ [] 0 0 := Stand.of_body Bd
  have e0 : s₁.heap = h0 := by rw [← hh, Bd.state]; rfl
  have N0 := Fr.nil n0
  show Goes p e below s (Q_rmget Z a1 dd ta da sa ff gg FF n1 MM h0 n0) ({ frames := 1, cells := 0, slots := 0, locals := 16 } : Room).cells ({ frames := 1, cells := 0, slots := 0, locals := 16 } : Room).slots (s₁.setTop (entryFrame m #[(.ref a1), (.int dd)] 3))
  refine Goes.pre (fun t kt => castTop (ef_rmget m a1 dd) kt) ?_
  show Goes p e below s _ _ _ (s₁.setTop (mkF m 0 #[.val (.ref a1), .val (.int dd), .unset] []))
  refine Goes.pre (fun t kt => XS.aloadN X0.here hx rfl (hb hby d15_0) rfl rfl kt) ?_
  show Goes p e below s _ _ _ (s₁.setTop (mkF m 1 #[.val (.ref a1), .val (.int dd), .unset] [(.ref a1)]))
  obtain ⟨T1, X1, e1, st1⟩ := getF X0 hx hZ hown (host := "") (Or.inl (hw _ (List.mem_of_getElem? (i := 15) rfl))) Via.refl e0 pf_F_a1_com_example_nosograph_nosograph_ranking_DocumentSums_table (g := (mkF m 1 #[.val (.ref a1), .val (.int dd), .unset] [(.ref a1)])) rfl rfl (hb hby d15_1)
  refine Goes.pre st1 ?_
  show Goes p e below s _ _ _ (T1.setTop (mkF m 4 #[.val (.ref a1), .val (.int dd), .unset] [(.ref ta)]))
  refine Goes.pre (fun t kt => XS.aloadN X1.here hx rfl (hb hby d15_4) rfl rfl kt) ?_
  show Goes p e below s _ _ _ (T1.setTop (mkF m 5 #[.val (.ref a1), .val (.int dd), .unset] [(.ref a1), (.ref ta)]))
  refine Goes.pre (fun t kt => XS.iloadN X1.here hx rfl (hb hby d15_5) rfl kt) ?_
  show Goes p e below s _ _ _ (T1.setTop (mkF m 6 #[.val (.ref a1), .val (.int dd), .unset] [(.int dd), (.ref a1), (.ref ta)]))
  obtain ⟨cq3, qa3, qb3⟩ := pf_E_a1.cell
  obtain ⟨_, _, ⟨T2, L2, k2, n2⟩, -, X2, ⟨Lc2, hQ2, l2, y2, z2⟩, st2⟩ := X1.privateBack hx (y := (⟨"com/example/nosograph/nosograph/ranking/DocumentSums", "slot", "(I)I"⟩ : MethodName)) hown (mvT hZ (hw _ (List.mem_of_getElem? (i := 50) rfl))) (mvT hZ (hw _ (List.mem_of_getElem? (i := 51) rfl))) (own_selp (y := (⟨"com/example/nosograph/nosograph/ranking/DocumentSums", "slot", "(I)I"⟩ : MethodName)) (a1 := #[]) (mvT hZ (hw _ (List.mem_of_getElem? (i := 6) rfl))) (Cond.privateMethod_at (mvP hZ (hw _ (List.mem_of_getElem? (i := 52) rfl)) (args := #[]))) (mvT hZ (hw _ (List.mem_of_getElem? (i := 51) rfl))) (by decide)) (Cond.privateMethod_at (mvP hZ (hw _ (List.mem_of_getElem? (i := 52) rfl)) (args := #[]))) (mvT hZ (hw _ (List.mem_of_getElem? (i := 53) rfl))) (by decide) (backOf (W := 1) (rmslot l Z a0 hw [] a1 dd ta da ff gg n1 h0 n0 Z0 pf_F_a1_com_example_nosograph_nosograph_ranking_DocumentSums_table pf_F_a1_com_example_nosograph_nosograph_ranking_DocumentSums_shift pf_F_a1_com_example_nosograph_nosograph_ranking_DocumentSums_documents pf_I_ta pf_I_da (hR.1)) hZ (hw _ (List.mem_of_getElem? (i := 53) rfl)) (hw _ (List.mem_of_getElem? (i := 7) rfl)) (by decide) (by decide)) (g := (mkF m 6 #[.val (.ref a1), .val (.int dd), .unset] [(.int dd), (.ref a1), (.ref ta)])) rfl (by rw [hml]; rfl) (Steps.refl _) (a := a1) (by rw [e1]; exact qa3) qb3 (argsL := [(.int dd)]) (rest := [(.ref ta)]) (lenOf pd_2 rfl) rfl (by show 2 * 0 + _ ≤ _; exact Nat.le_of_eq rfl) (hb hby d15_6) (fun _ _ => ⟨rfl, e1, (by decide : 0 + 0 ≤ _), (by decide : 0 + 0 ≤ _)⟩)
  dsimp only [Pt.U, Pt.locs, Pt.cells, Pt.slots] at X2 l2 y2 z2 st2 hQ2
  subst l2 y2 z2
  obtain ⟨sl_2, rfl, Nq2, eq2, pq2_0⟩ := hQ2
  refine Goes.run st2 ?_
  have N2 := Fr.app N0 Nq2
  show Goes p e below s _ _ _ (T2.setTop (mkF m 9 #[.val (.ref a1), .val (.int dd), .unset] [(.int sl_2), (.ref ta)]))
  obtain ⟨cl4, Ar4, aS4, aN4, aH4⟩ := pf_I_ta
  have In4 : OwnI Z h0 ta (16 : Int32) ff := ⟨cl4, Ar4, aS4, aN4, aH4⟩
  have hin4 : ¬ (sl_2 < 0 ∨ cl4.slots.size ≤ (sl_2).toNatClampNeg) := inb_of aS4 ⟨(own_slotR pq2_0).1, (own_slotR pq2_0).2⟩
  have hat4 : cl4.slots[(sl_2).toNatClampNeg]? = some (.int (ff sl_2)) := aH4 _ (own_slotR pq2_0).1 (own_slotR pq2_0).2
  refine Goes.pre (X2.iaload hx (j := sl_2) (v := (.int (ff sl_2))) (by rw [eq2]; exact Ar4.1) (State.isArrayOf_alike hZ.alike Ar4.2.1) Ar4.2.2 hin4 hat4 (g := (mkF m 9 #[.val (.ref a1), .val (.int dd), .unset] [(.int sl_2), (.ref ta)])) rfl rfl (hb hby d15_9)) ?_
  show Goes p e below s _ _ _ (T2.setTop (mkF m 10 #[.val (.ref a1), .val (.int dd), .unset] [(.int (ff sl_2))]))
  refine Goes.pre (fun t kt => XS.istoreN X2.here hx rfl (hb hby d15_10) rfl (l' := #[.val (.ref a1), .val (.int dd), .val (.int (ff sl_2))]) rfl kt) ?_
  show Goes p e below s _ _ _ (T2.setTop (mkF m 11 #[.val (.ref a1), .val (.int dd), .val (.int (ff sl_2))] []))
  refine Goes.pre (fun t kt => XS.iloadN X2.here hx rfl (hb hby d15_11) rfl kt) ?_
  show Goes p e below s _ _ _ (T2.setTop (mkF m 12 #[.val (.ref a1), .val (.int dd), .val (.int (ff sl_2))] [(.int (ff sl_2))]))
  refine Goes.pre (fun t kt => XS.iconst X2.here hx rfl (hb hby d15_12) kt) ?_
  show Goes p e below s _ _ _ (T2.setTop (mkF m 13 #[.val (.ref a1), .val (.int dd), .val (.int (ff sl_2))] [(.int (-1 : Int32)), (.int (ff sl_2))]))
  by_cases hc13 : (ff sl_2) = (-1 : Int32)
  · refine Goes.pre (fun t kt => XS.icmpNo X2.here hx rfl (hb hby d15_13) rfl (Jvm.Free.XT.ii_ne_f (hc13)) kt) ?_
    show Goes p e below s _ _ _ (T2.setTop (mkF m 16 #[.val (.ref a1), .val (.int dd), .val (.int (ff sl_2))] []))
    refine Goes.pre (fun t kt => XS.dconst0 X2.here hx rfl (hb hby d15_16) (v := (FP.l2d 0)) (by decide +kernel) kt) ?_
    show Goes p e below s _ _ _ (T2.setTop (mkF m 17 #[.val (.ref a1), .val (.int dd), .val (.int (ff sl_2))] [(.double (FP.l2d 0))]))
    refine Goes.pre (fun t kt => XS.goto X2.here hx rfl (pc0 := 17) (pc' := 26) rfl (hb hby d15_17) (by decide) (by decide) kt) ?_
    show Goes p e below s _ _ _ (T2.setTop (mkF m 26 #[.val (.ref a1), .val (.int dd), .val (.int (ff sl_2))] [(.double (FP.l2d 0))]))
    refine Goes.ret X2 (some (.double (FP.l2d 0))) (fun h => by rw [Bd.returns] at h; cases h) (BodyLoose.notSynchronized Bd) (by decide) (by decide) (fun fs hr => retOut X2 hx (t := .double) Bd.returns rfl (Or.inr (Or.inr (Or.inl ⟨rfl, rfl, _, rfl⟩))) (hb hby d15_26) hr) ?_
    show Q_rmget Z a1 dd ta da sa ff gg FF n1 MM h0 n0 _ T2.heap _
    rw [eq2]
    exact ⟨(by rw [(hR.2 _ _ pq2_0).1 hc13]), N2, rfl⟩
  · refine Goes.pre (fun t kt => XS.icmpYes X2.here hx rfl (pc0 := 13) (pc' := 20) rfl (hb hby d15_13) rfl (Jvm.Free.XT.ii_ne_t (hc13)) (by decide) (by decide) kt) ?_
    show Goes p e below s _ _ _ (T2.setTop (mkF m 20 #[.val (.ref a1), .val (.int dd), .val (.int (ff sl_2))] []))
    refine Goes.pre (fun t kt => XS.aloadN X2.here hx rfl (hb hby d15_20) rfl rfl kt) ?_
    show Goes p e below s _ _ _ (T2.setTop (mkF m 21 #[.val (.ref a1), .val (.int dd), .val (.int (ff sl_2))] [(.ref a1)]))
    obtain ⟨T5, X5, e5, st5⟩ := getF X2 hx hZ hown (host := "") (Or.inl (hw _ (List.mem_of_getElem? (i := 27) rfl))) Via.refl eq2 pf_F_a1_com_example_nosograph_nosograph_ranking_DocumentSums_sums (g := (mkF m 21 #[.val (.ref a1), .val (.int dd), .val (.int (ff sl_2))] [(.ref a1)])) rfl rfl (hb hby d15_21)
    refine Goes.pre st5 ?_
    show Goes p e below s _ _ _ (T5.setTop (mkF m 24 #[.val (.ref a1), .val (.int dd), .val (.int (ff sl_2))] [(.ref sa)]))
    refine Goes.pre (fun t kt => XS.iloadN X5.here hx rfl (hb hby d15_24) rfl kt) ?_
    show Goes p e below s _ _ _ (T5.setTop (mkF m 25 #[.val (.ref a1), .val (.int dd), .val (.int (ff sl_2))] [(.int (ff sl_2)), (.ref sa)]))
    obtain ⟨cl6, Ar6, aS6, aN6, aH6⟩ := pf_B_sa
    have In6 : OwnD Z h0 sa (8 : Int32) FF := ⟨cl6, Ar6, aS6, aN6, aH6⟩
    have hin6 : ¬ ((ff sl_2) < 0 ∨ cl6.slots.size ≤ ((ff sl_2)).toNatClampNeg) := inb_of aS6 ⟨(own_place hR.1 (own_slotR pq2_0) hc13).1, (own_place hR.1 (own_slotR pq2_0) hc13).2⟩
    have hat6 : cl6.slots[((ff sl_2)).toNatClampNeg]? = some (.double (FF (ff sl_2))) := aH6 _ (own_place hR.1 (own_slotR pq2_0) hc13).1 (own_place hR.1 (own_slotR pq2_0) hc13).2
    refine Goes.pre (X5.daload hx (j := (ff sl_2)) (v := (.double (FF (ff sl_2)))) (by rw [e5]; exact Ar6.1) (State.isArrayOf_alike hZ.alike Ar6.2.1) Ar6.2.2 hin6 hat6 (g := (mkF m 25 #[.val (.ref a1), .val (.int dd), .val (.int (ff sl_2))] [(.int (ff sl_2)), (.ref sa)])) rfl rfl (hb hby d15_25)) ?_
    show Goes p e below s _ _ _ (T5.setTop (mkF m 26 #[.val (.ref a1), .val (.int dd), .val (.int (ff sl_2))] [(.double (FF (ff sl_2)))]))
    refine Goes.ret X5 (some (.double (FF (ff sl_2)))) (fun h => by rw [Bd.returns] at h; cases h) (BodyLoose.notSynchronized Bd) (by decide) (by decide) (fun fs hr => retOut X5 hx (t := .double) Bd.returns rfl (Or.inr (Or.inr (Or.inl ⟨rfl, rfl, _, rfl⟩))) (hb hby d15_26) hr) ?_
    show Q_rmget Z a1 dd ta da sa ff gg FF n1 MM h0 n0 _ T5.heap _
    rw [e5]
    exact ⟨(by rw [(hR.2 _ _ pq2_0).2 hc13]), N2, rfl⟩
theorem d8_0 : decode jdk_41_method_11_code 0 = .ok (.iload_n 0, 1) := by decide +kernel
theorem d8_1 : decode jdk_41_method_11_code 1 = .ok (.ifCond .lt 8, 3) := by decide +kernel
theorem d8_4 : decode jdk_41_method_11_code 4 = .ok (.iload_n 0, 1) := by decide +kernel
theorem d8_5 : decode jdk_41_method_11_code 5 = .ok (.iload_n 1, 1) := by decide +kernel
theorem d8_6 : decode jdk_41_method_11_code 6 = .ok (.if_icmp .lt 10, 3) := by decide +kernel
theorem d8_16 : decode jdk_41_method_11_code 16 = .ok (.iload_n 0, 1) := by decide +kernel
theorem d8_17 : decode jdk_41_method_11_code 17 = .ok (.ireturn, 1) := by decide +kernel
theorem pn_5 : plainName "jdk/internal/util/Preconditions" = true := by first | (simp [plainName, overriddenIn]; done) | decide +kernel
def Q_rmpci (Z : State) (p1 : Int32) (p2 : Int32) (h0 : Heap) (n0 : Nat) (v : Option Value) (h : Heap) (L : List Loc) : Prop := v = some (.int p1) ∧ Fr n0 L ∧ h = h0
theorem ef_rmpci (m : MethodId) (p1 : Int32) (p2 : Int32) : entryFrame m #[(.int p1), (.int p2), .null] 3 = mkF m 0 #[.val (.int p1), .val (.int p2), .val .null] [] := by first | (simp [entryFrame, mkF, argsToLocals, Value.category]; done) | rfl
set_option maxRecDepth 65536 in
set_option maxHeartbeats 40000000 in
theorem rmpci (l : Launch) (Z : State) (a0 : Array Value) (hw : ∀ d ∈ tables_1, d.before a0 Z = true) (ws : List Jvm.Cond) (p1 : Int32) (p2 : Int32) (h0 : Heap) (n0 : Nat) (Z0 : n0 ≤ h0.size) (hp0 : ¬ p1 < (0 : Int32)) (hp1 : p1 < p2) :
    MetFree l (⟨"jdk/internal/util/Preconditions", "checkIndex", "(IILjava/util/function/BiFunction;)I"⟩ : MethodName) (head1 (Jvm.Cond.code (⟨"jdk/internal/util/Preconditions", "checkIndex", "(IILjava/util/function/BiFunction;)I"⟩ : MethodName) jdk_41_method_11_code 3 (some .int) :: ws) ({ frames := 0, cells := 0, slots := 0, locals := 0 } : Room)) (fun a U => a = #[(.int p1), (.int p2), .null] ∧ Z.Warmed39 U.vm ∧ U.heap = h0) (fun _ _ _ _ _ => True) (fun _ U o U' => ∃ v L, o = .returned v ∧ Q_rmpci Z p1 p2 h0 n0 v U'.heap L ∧ FrameEnd U o U' L ({ frames := 0, cells := 0, slots := 0, locals := 0 } : Room).cells ({ frames := 0, cells := 0, slots := 0, locals := 0 } : Room).slots) := by
  refine MetFree.of_bodySF (plainFor_of_name pn_5) hisR ?_
  intro p e s m args below meth c s₁ Bd hml0 hP hK
  obtain ⟨rfl, hZ, hh⟩ := hP
  have hx := Bd.exec
  have hby := Bd.bytes
  have hml : c.maxLocals = 3 := hml0
  have hown : s.vm.findClass "jdk/internal/util/Preconditions" = some m.cls := findClass_of_methodNamed Bd.named
  have hnm := (name_of_methodNamed Bd.named Bd.method).1
  have X0 : Stand p l e ({ frames := 0, cells := 0, slots := 0, locals := 0 } : Room) s m #[(.int p1), (.int p2), .null] below meth c s₁ [] 0 0 := Stand.of_body Bd
  have e0 : s₁.heap = h0 := by rw [← hh, Bd.state]; rfl
  have N0 := Fr.nil n0
  show Goes p e below s (Q_rmpci Z p1 p2 h0 n0) ({ frames := 0, cells := 0, slots := 0, locals := 0 } : Room).cells ({ frames := 0, cells := 0, slots := 0, locals := 0 } : Room).slots (s₁.setTop (entryFrame m #[(.int p1), (.int p2), .null] 3))
  refine Goes.pre (fun t kt => castTop (ef_rmpci m p1 p2) kt) ?_
  show Goes p e below s _ _ _ (s₁.setTop (mkF m 0 #[.val (.int p1), .val (.int p2), .val .null] []))
  refine Goes.pre (fun t kt => XS.iloadN X0.here hx rfl (hb hby d8_0) rfl kt) ?_
  show Goes p e below s _ _ _ (s₁.setTop (mkF m 1 #[.val (.int p1), .val (.int p2), .val .null] [(.int p1)]))
  refine Goes.pre (fun t kt => XS.ifNo X0.here hx rfl (hb hby d8_1) rfl (Jvm.Free.XT.i0_lt_f (hp0)) kt) ?_
  show Goes p e below s _ _ _ (s₁.setTop (mkF m 4 #[.val (.int p1), .val (.int p2), .val .null] []))
  refine Goes.pre (fun t kt => XS.iloadN X0.here hx rfl (hb hby d8_4) rfl kt) ?_
  show Goes p e below s _ _ _ (s₁.setTop (mkF m 5 #[.val (.int p1), .val (.int p2), .val .null] [(.int p1)]))
  refine Goes.pre (fun t kt => XS.iloadN X0.here hx rfl (hb hby d8_5) rfl kt) ?_
  show Goes p e below s _ _ _ (s₁.setTop (mkF m 6 #[.val (.int p1), .val (.int p2), .val .null] [(.int p2), (.int p1)]))
  refine Goes.pre (fun t kt => XS.icmpYes X0.here hx rfl (pc0 := 6) (pc' := 16) rfl (hb hby d8_6) rfl (Jvm.Free.XT.ii_lt_t (hp1)) (by decide) (by decide) kt) ?_
  show Goes p e below s _ _ _ (s₁.setTop (mkF m 16 #[.val (.int p1), .val (.int p2), .val .null] []))
  refine Goes.pre (fun t kt => XS.iloadN X0.here hx rfl (hb hby d8_16) rfl kt) ?_
  show Goes p e below s _ _ _ (s₁.setTop (mkF m 17 #[.val (.int p1), .val (.int p2), .val .null] [(.int p1)]))
  refine Goes.ret X0 (some (.int p1)) (fun h => by rw [Bd.returns] at h; cases h) (BodyLoose.notSynchronized Bd) (by decide) (by decide) (fun fs hr => retOut X0 hx (t := .int) Bd.returns rfl (Or.inl ⟨rfl, Or.inl rfl, _, rfl⟩) (hb hby d8_17) hr) ?_
  show Q_rmpci Z p1 p2 h0 n0 _ s₁.heap _
  rw [e0]
  exact ⟨rfl, N0, rfl⟩
theorem d7_0 : decode jdk_31_method_17_code 0 = .ok (.iload_n 0, 1) := by decide +kernel
theorem d7_1 : decode jdk_31_method_17_code 1 = .ok (.iload_n 1, 1) := by decide +kernel
theorem d7_2 : decode jdk_31_method_17_code 2 = .ok (.aconst_null, 1) := by decide +kernel
theorem d7_3 : decode jdk_31_method_17_code 3 = .ok (.invokestatic 105, 3) := by decide +kernel
theorem pd_6 : parseMethodDescriptor "(IILjava/util/function/BiFunction;)I" = some ⟨[.int, .int, (.object "java/util/function/BiFunction")], some .int⟩ := by decide +kernel
theorem d7_6 : decode jdk_31_method_17_code 6 = .ok (.ireturn, 1) := by decide +kernel
theorem pn_7 : plainName "java/util/Objects" = true := by first | (simp [plainName, overriddenIn]; done) | decide +kernel
def Q_rmoci (Z : State) (p1 : Int32) (p2 : Int32) (h0 : Heap) (n0 : Nat) (v : Option Value) (h : Heap) (L : List Loc) : Prop := v = some (.int p1) ∧ Fr n0 L ∧ h = h0
theorem ef_rmoci (m : MethodId) (p1 : Int32) (p2 : Int32) : entryFrame m #[(.int p1), (.int p2)] 2 = mkF m 0 #[.val (.int p1), .val (.int p2)] [] := by first | (simp [entryFrame, mkF, argsToLocals, Value.category]; done) | rfl
set_option maxRecDepth 65536 in
set_option maxHeartbeats 40000000 in
theorem rmoci (l : Launch) (Z : State) (a0 : Array Value) (hw : ∀ d ∈ tables_1, d.before a0 Z = true) (ws : List Jvm.Cond) (p1 : Int32) (p2 : Int32) (h0 : Heap) (n0 : Nat) (Z0 : n0 ≤ h0.size) (hp0 : ¬ p1 < (0 : Int32)) (hp1 : p1 < p2) :
    MetFree l (⟨"java/util/Objects", "checkIndex", "(II)I"⟩ : MethodName) (head1 (Jvm.Cond.code (⟨"java/util/Objects", "checkIndex", "(II)I"⟩ : MethodName) jdk_31_method_17_code 2 (some .int) :: ws) ({ frames := 1, cells := 0, slots := 0, locals := 14 } : Room)) (fun a U => a = #[(.int p1), (.int p2)] ∧ Z.Warmed39 U.vm ∧ U.heap = h0) (fun _ _ _ _ _ => True) (fun _ U o U' => ∃ v L, o = .returned v ∧ Q_rmoci Z p1 p2 h0 n0 v U'.heap L ∧ FrameEnd U o U' L ({ frames := 1, cells := 0, slots := 0, locals := 14 } : Room).cells ({ frames := 1, cells := 0, slots := 0, locals := 14 } : Room).slots) := by
  refine MetFree.of_bodySF (plainFor_of_name pn_7) hisR ?_
  intro p e s m args below meth c s₁ Bd hml0 hP hK
  obtain ⟨rfl, hZ, hh⟩ := hP
  have hx := Bd.exec
  have hby := Bd.bytes
  have hml : c.maxLocals = 2 := hml0
  have hown : s.vm.findClass "java/util/Objects" = some m.cls := findClass_of_methodNamed Bd.named
  have hnm := (name_of_methodNamed Bd.named Bd.method).1
  have X0 : Stand p l e ({ frames := 1, cells := 0, slots := 0, locals := 14 } : Room) s m #[(.int p1), (.int p2)] below meth c s₁ [] 0 0 := Stand.of_body Bd
  have e0 : s₁.heap = h0 := by rw [← hh, Bd.state]; rfl
  have N0 := Fr.nil n0
  show Goes p e below s (Q_rmoci Z p1 p2 h0 n0) ({ frames := 1, cells := 0, slots := 0, locals := 14 } : Room).cells ({ frames := 1, cells := 0, slots := 0, locals := 14 } : Room).slots (s₁.setTop (entryFrame m #[(.int p1), (.int p2)] 2))
  refine Goes.pre (fun t kt => castTop (ef_rmoci m p1 p2) kt) ?_
  show Goes p e below s _ _ _ (s₁.setTop (mkF m 0 #[.val (.int p1), .val (.int p2)] []))
  refine Goes.pre (fun t kt => XS.iloadN X0.here hx rfl (hb hby d7_0) rfl kt) ?_
  show Goes p e below s _ _ _ (s₁.setTop (mkF m 1 #[.val (.int p1), .val (.int p2)] [(.int p1)]))
  refine Goes.pre (fun t kt => XS.iloadN X0.here hx rfl (hb hby d7_1) rfl kt) ?_
  show Goes p e below s _ _ _ (s₁.setTop (mkF m 2 #[.val (.int p1), .val (.int p2)] [(.int p2), (.int p1)]))
  refine Goes.pre (fun t kt => XS.aconstNull X0.here hx rfl (hb hby d7_2) kt) ?_
  show Goes p e below s _ _ _ (s₁.setTop (mkF m 3 #[.val (.int p1), .val (.int p2)] [.null, (.int p2), (.int p1)]))
  obtain ⟨_, _, ⟨T1, L1, k1, n1⟩, -, X1, ⟨Lc1, hQ1, l1, y1, z1⟩, st1⟩ := Jvm.LawKit.callS X0 hx (y := (⟨"jdk/internal/util/Preconditions", "checkIndex", "(IILjava/util/function/BiFunction;)I"⟩ : MethodName)) hown (mvT hZ (hw _ (List.mem_of_getElem? (i := 46) rfl))) (mvT hZ (hw _ (List.mem_of_getElem? (i := 47) rfl))) (mvT hZ (hw _ (List.mem_of_getElem? (i := 48) rfl))) (mvT hZ (hw _ (List.mem_of_getElem? (i := 49) rfl))) (by decide) (backOf (W := 0) (rmpci l Z a0 hw [] p1 p2 h0 n0 Z0 (hp0) (hp1)) hZ (hw _ (List.mem_of_getElem? (i := 49) rfl)) (hw _ (List.mem_of_getElem? (i := 48) rfl)) (by decide) (by decide)) (g := (mkF m 3 #[.val (.int p1), .val (.int p2)] [.null, (.int p2), (.int p1)])) rfl (by rw [hml]; rfl) (argsL := [(.int p1), (.int p2), .null]) (rest := []) (lenOf pd_6 rfl) rfl (by show 2 * 0 + _ ≤ _; exact Nat.le_of_eq rfl) (hb hby d7_3) (fun _ _ => ⟨rfl, e0, (by decide : 0 + 0 ≤ _), (by decide : 0 + 0 ≤ _)⟩)
  dsimp only [Pt.U, Pt.locs, Pt.cells, Pt.slots] at X1 l1 y1 z1 st1 hQ1
  subst l1 y1 z1
  obtain ⟨rfl, Nq1, eq1⟩ := hQ1
  refine Goes.pre st1 ?_
  have N1 := Fr.app N0 Nq1
  show Goes p e below s _ _ _ (T1.setTop (mkF m 6 #[.val (.int p1), .val (.int p2)] [(.int p1)]))
  refine Goes.ret X1 (some (.int p1)) (fun h => by rw [Bd.returns] at h; cases h) (BodyLoose.notSynchronized Bd) (by decide) (by decide) (fun fs hr => retOut X1 hx (t := .int) Bd.returns rfl (Or.inl ⟨rfl, Or.inl rfl, _, rfl⟩) (hb hby d7_6) hr) ?_
  show Q_rmoci Z p1 p2 h0 n0 _ T1.heap _
  rw [eq1]
  exact ⟨rfl, N1, rfl⟩
theorem own_b0 : B53 0 := by unfold B53; decide
theorem d6_0 : decode prog_56_method_2_code 0 = .ok (.iload_n 1, 1) := by decide +kernel
theorem d6_1 : decode prog_56_method_2_code 1 = .ok (.aload_n 0, 1) := by decide +kernel
theorem d6_2 : decode prog_56_method_2_code 2 = .ok (.getfield 33, 3) := by decide +kernel
theorem d6_5 : decode prog_56_method_2_code 5 = .ok (.invokestatic 42, 3) := by decide +kernel
theorem pd_8 : parseMethodDescriptor "(II)I" = some ⟨[.int, .int], some .int⟩ := by decide +kernel
theorem d6_8 : decode prog_56_method_2_code 8 = .ok (.pop, 1) := by decide +kernel
theorem d6_9 : decode prog_56_method_2_code 9 = .ok (.aload_n 0, 1) := by decide +kernel
theorem d6_10 : decode prog_56_method_2_code 10 = .ok (.iload_n 1, 1) := by decide +kernel
theorem d6_11 : decode prog_56_method_2_code 11 = .ok (.invokevirtual 48, 3) := by decide +kernel
theorem d6_14 : decode prog_56_method_2_code 14 = .ok (.istore 4, 2) := by decide +kernel
theorem d6_16 : decode prog_56_method_2_code 16 = .ok (.aload_n 0, 1) := by decide +kernel
theorem d6_17 : decode prog_56_method_2_code 17 = .ok (.getfield 9, 3) := by decide +kernel
theorem d6_20 : decode prog_56_method_2_code 20 = .ok (.iload 4, 2) := by decide +kernel
theorem d6_22 : decode prog_56_method_2_code 22 = .ok (.iaload, 1) := by decide +kernel
theorem d6_23 : decode prog_56_method_2_code 23 = .ok (.iconst (-1), 1) := by decide +kernel
theorem d6_24 : decode prog_56_method_2_code 24 = .ok (.if_icmp .ne 82, 3) := by decide +kernel
theorem d6_27 : decode prog_56_method_2_code 27 = .ok (.iconst 2, 1) := by decide +kernel
theorem d6_28 : decode prog_56_method_2_code 28 = .ok (.aload_n 0, 1) := by decide +kernel
theorem d6_29 : decode prog_56_method_2_code 29 = .ok (.getfield 51, 3) := by decide +kernel
theorem d6_32 : decode prog_56_method_2_code 32 = .ok (.iconst 1, 1) := by decide +kernel
theorem d6_33 : decode prog_56_method_2_code 33 = .ok (.iadd, 1) := by decide +kernel
theorem d6_34 : decode prog_56_method_2_code 34 = .ok (.imul, 1) := by decide +kernel
theorem d6_35 : decode prog_56_method_2_code 35 = .ok (.aload_n 0, 1) := by decide +kernel
theorem d6_36 : decode prog_56_method_2_code 36 = .ok (.getfield 9, 3) := by decide +kernel
theorem d6_39 : decode prog_56_method_2_code 39 = .ok (.arraylength, 1) := by decide +kernel
theorem d6_40 : decode prog_56_method_2_code 40 = .ok (.if_icmp .le 14, 3) := by decide +kernel
theorem d6_54 : decode prog_56_method_2_code 54 = .ok (.aload_n 0, 1) := by decide +kernel
theorem d6_55 : decode prog_56_method_2_code 55 = .ok (.getfield 9, 3) := by decide +kernel
theorem d6_58 : decode prog_56_method_2_code 58 = .ok (.iload 4, 2) := by decide +kernel
theorem d6_60 : decode prog_56_method_2_code 60 = .ok (.aload_n 0, 1) := by decide +kernel
theorem d6_61 : decode prog_56_method_2_code 61 = .ok (.getfield 51, 3) := by decide +kernel
theorem d6_64 : decode prog_56_method_2_code 64 = .ok (.iastore, 1) := by decide +kernel
theorem d6_65 : decode prog_56_method_2_code 65 = .ok (.aload_n 0, 1) := by decide +kernel
theorem d6_66 : decode prog_56_method_2_code 66 = .ok (.getfield 23, 3) := by decide +kernel
theorem d6_69 : decode prog_56_method_2_code 69 = .ok (.aload_n 0, 1) := by decide +kernel
theorem d6_70 : decode prog_56_method_2_code 70 = .ok (.getfield 51, 3) := by decide +kernel
theorem d6_73 : decode prog_56_method_2_code 73 = .ok (.iload_n 1, 1) := by decide +kernel
theorem d6_74 : decode prog_56_method_2_code 74 = .ok (.iastore, 1) := by decide +kernel
theorem d6_75 : decode prog_56_method_2_code 75 = .ok (.aload_n 0, 1) := by decide +kernel
theorem d6_76 : decode prog_56_method_2_code 76 = .ok (.getfield 26, 3) := by decide +kernel
theorem d6_79 : decode prog_56_method_2_code 79 = .ok (.aload_n 0, 1) := by decide +kernel
theorem d6_80 : decode prog_56_method_2_code 80 = .ok (.getfield 51, 3) := by decide +kernel
theorem d6_83 : decode prog_56_method_2_code 83 = .ok (.dconst 0, 1) := by decide +kernel
theorem d6_84 : decode prog_56_method_2_code 84 = .ok (.dastore, 1) := by decide +kernel
theorem d6_85 : decode prog_56_method_2_code 85 = .ok (.aload_n 0, 1) := by decide +kernel
theorem d6_86 : decode prog_56_method_2_code 86 = .ok (.getfield 30, 3) := by decide +kernel
theorem d6_89 : decode prog_56_method_2_code 89 = .ok (.aload_n 0, 1) := by decide +kernel
theorem d6_90 : decode prog_56_method_2_code 90 = .ok (.getfield 51, 3) := by decide +kernel
theorem d6_93 : decode prog_56_method_2_code 93 = .ok (.iload 4, 2) := by decide +kernel
theorem d6_95 : decode prog_56_method_2_code 95 = .ok (.iastore, 1) := by decide +kernel
theorem d6_96 : decode prog_56_method_2_code 96 = .ok (.aload_n 0, 1) := by decide +kernel
theorem d6_97 : decode prog_56_method_2_code 97 = .ok (.dup, 1) := by decide +kernel
theorem d6_98 : decode prog_56_method_2_code 98 = .ok (.getfield 51, 3) := by decide +kernel
theorem d6_101 : decode prog_56_method_2_code 101 = .ok (.iconst 1, 1) := by decide +kernel
theorem d6_102 : decode prog_56_method_2_code 102 = .ok (.iadd, 1) := by decide +kernel
theorem d6_103 : decode prog_56_method_2_code 103 = .ok (.putfield 51, 3) := by decide +kernel
theorem d6_106 : decode prog_56_method_2_code 106 = .ok (.aload_n 0, 1) := by decide +kernel
theorem d6_107 : decode prog_56_method_2_code 107 = .ok (.getfield 26, 3) := by decide +kernel
theorem d6_110 : decode prog_56_method_2_code 110 = .ok (.aload_n 0, 1) := by decide +kernel
theorem d6_111 : decode prog_56_method_2_code 111 = .ok (.getfield 9, 3) := by decide +kernel
theorem d6_114 : decode prog_56_method_2_code 114 = .ok (.iload 4, 2) := by decide +kernel
theorem d6_116 : decode prog_56_method_2_code 116 = .ok (.iaload, 1) := by decide +kernel
theorem d6_117 : decode prog_56_method_2_code 117 = .ok (.dup2, 1) := by decide +kernel
theorem d6_118 : decode prog_56_method_2_code 118 = .ok (.daload, 1) := by decide +kernel
theorem d6_119 : decode prog_56_method_2_code 119 = .ok (.dload_n 2, 1) := by decide +kernel
theorem d6_120 : decode prog_56_method_2_code 120 = .ok (.dadd, 1) := by decide +kernel
theorem d6_121 : decode prog_56_method_2_code 121 = .ok (.dastore, 1) := by decide +kernel
theorem d6_122 : decode prog_56_method_2_code 122 = .ok (.return_, 1) := by decide +kernel
def Q_rmadd (Z : State) (a1 : Addr) (dd : Int32) (xx : Int64) (ta : Addr) (da : Addr) (sa : Addr) (la : Addr) (ff : (Int32 → Int32)) (gg : (Int32 → Int32)) (FF : (Int32 → UInt64)) (uu : (Int32 → Int32)) (n1 : Nat) (MM : (Int32 → Int64)) (nn : Int32) (cc : Int32) (h0 : Heap) (n0 : Nat) (v : Option Value) (h : Heap) (L : List Loc) : Prop := ∃ ff2 : (Int32 → Int32), ∃ gg2 : (Int32 → Int32), ∃ FF2 : (Int32 → UInt64), ∃ uu2 : (Int32 → Int32), ∃ n2 : Nat, ∃ cc2 : Int32, v = none ∧ Fr n0 L ∧ Keep h0 h [a1, ta, da, sa, la] ∧ (Fld Z h a1 "com/example/nosograph/nosograph/ranking/DocumentSums" "table" "[I" (.ref ta)) ∧ (Fld Z h a1 "com/example/nosograph/nosograph/ranking/DocumentSums" "shift" "I" (.int (28 : Int32))) ∧ (Fld Z h a1 "com/example/nosograph/nosograph/ranking/DocumentSums" "documents" "[I" (.ref da)) ∧ (Fld Z h a1 "com/example/nosograph/nosograph/ranking/DocumentSums" "sums" "[D" (.ref sa)) ∧ (Fld Z h a1 "com/example/nosograph/nosograph/ranking/DocumentSums" "slots" "[I" (.ref la)) ∧ (Fld Z h a1 "com/example/nosograph/nosograph/ranking/DocumentSums" "documentCount" "I" (.int nn)) ∧ (Fld Z h a1 "com/example/nosograph/nosograph/ranking/DocumentSums" "count" "I" (.int cc2)) ∧ (OwnI Z h ta (16 : Int32) ff2) ∧ (OwnI Z h da (8 : Int32) gg2) ∧ (OwnD Z h sa (8 : Int32) FF2) ∧ (OwnI Z h la (8 : Int32) uu2) ∧ (own_rep ff2 gg2 FF2 n2 (own_plus MM dd xx)) ∧ (n2 ≤ n1 + 1) ∧ (cc2.toInt = n2) ∧ (own_u ff2 uu2 n2) ∧ (∃ q : Int32, 0 ≤ q.toInt ∧ q.toInt < n2 ∧ gg2 q = dd)
theorem ef_rmadd (m : MethodId) (a1 : Addr) (dd : Int32) (xx : Int64) : entryFrame m #[(.ref a1), (.int dd), (.double (FP.l2d xx))] 5 = mkF m 0 #[.val (.ref a1), .val (.int dd), .val (.double (FP.l2d xx)), .second, .unset] [] := by first | (simp [entryFrame, mkF, argsToLocals, Value.category]; done) | rfl
set_option maxRecDepth 65536 in
set_option maxHeartbeats 40000000 in
theorem rmadd (l : Launch) (Z : State) (a0 : Array Value) (hw : ∀ d ∈ tables_1, d.before a0 Z = true) (ws : List Jvm.Cond) (a1 : Addr) (dd : Int32) (xx : Int64) (ta : Addr) (da : Addr) (sa : Addr) (la : Addr) (ff : (Int32 → Int32)) (gg : (Int32 → Int32)) (FF : (Int32 → UInt64)) (uu : (Int32 → Int32)) (n1 : Nat) (MM : (Int32 → Int64)) (nn : Int32) (cc : Int32) (h0 : Heap) (n0 : Nat) (Z0 : n0 ≤ h0.size) (pf_E_a1 : Exa Z h0 a1 "com/example/nosograph/nosograph/ranking/DocumentSums") (pf_G_a1 : n0 ≤ a1) (pf_G_ta : n0 ≤ ta) (pf_G_da : n0 ≤ da) (pf_G_sa : n0 ≤ sa) (pf_G_la : n0 ≤ la) (pf_NE_ta_a1 : ta ≠ a1) (pf_NE_da_a1 : da ≠ a1) (pf_NE_da_ta : da ≠ ta) (pf_NE_sa_a1 : sa ≠ a1) (pf_NE_sa_ta : sa ≠ ta) (pf_NE_sa_da : sa ≠ da) (pf_NE_la_a1 : la ≠ a1) (pf_NE_la_ta : la ≠ ta) (pf_NE_la_da : la ≠ da) (pf_NE_la_sa : la ≠ sa) (pf_F_a1_com_example_nosograph_nosograph_ranking_DocumentSums_table : Fld Z h0 a1 "com/example/nosograph/nosograph/ranking/DocumentSums" "table" "[I" (.ref ta)) (pf_F_a1_com_example_nosograph_nosograph_ranking_DocumentSums_shift : Fld Z h0 a1 "com/example/nosograph/nosograph/ranking/DocumentSums" "shift" "I" (.int (28 : Int32))) (pf_F_a1_com_example_nosograph_nosograph_ranking_DocumentSums_documents : Fld Z h0 a1 "com/example/nosograph/nosograph/ranking/DocumentSums" "documents" "[I" (.ref da)) (pf_F_a1_com_example_nosograph_nosograph_ranking_DocumentSums_sums : Fld Z h0 a1 "com/example/nosograph/nosograph/ranking/DocumentSums" "sums" "[D" (.ref sa)) (pf_F_a1_com_example_nosograph_nosograph_ranking_DocumentSums_slots : Fld Z h0 a1 "com/example/nosograph/nosograph/ranking/DocumentSums" "slots" "[I" (.ref la)) (pf_F_a1_com_example_nosograph_nosograph_ranking_DocumentSums_documentCount : Fld Z h0 a1 "com/example/nosograph/nosograph/ranking/DocumentSums" "documentCount" "I" (.int nn)) (pf_F_a1_com_example_nosograph_nosograph_ranking_DocumentSums_count : Fld Z h0 a1 "com/example/nosograph/nosograph/ranking/DocumentSums" "count" "I" (.int cc)) (pf_I_ta : OwnI Z h0 ta (16 : Int32) ff) (pf_I_da : OwnI Z h0 da (8 : Int32) gg) (pf_B_sa : OwnD Z h0 sa (8 : Int32) FF) (pf_I_la : OwnI Z h0 la (8 : Int32) uu) (hR : own_rep ff gg FF n1 MM) (hn : n1 ≤ 2) (hcc : cc.toInt = n1) (hd0 : ¬ dd < (0 : Int32)) (hd1 : dd < nn) (hB1 : B53 (MM dd)) (hB2 : B53 xx) (hU : own_u ff uu n1) :
    MetFree l (⟨"com/example/nosograph/nosograph/ranking/DocumentSums", "add", "(ID)V"⟩ : MethodName) (head1 (Jvm.Cond.code (⟨"com/example/nosograph/nosograph/ranking/DocumentSums", "add", "(ID)V"⟩ : MethodName) prog_56_method_2_code 5 none :: ws) ({ frames := 2, cells := 0, slots := 0, locals := 27 } : Room)) (fun a U => a = #[(.ref a1), (.int dd), (.double (FP.l2d xx))] ∧ Z.Warmed39 U.vm ∧ U.heap = h0) (fun _ _ _ _ _ => True) (fun _ U o U' => ∃ v L, o = .returned v ∧ Q_rmadd Z a1 dd xx ta da sa la ff gg FF uu n1 MM nn cc h0 n0 v U'.heap L ∧ FrameEnd U o U' L ({ frames := 2, cells := 0, slots := 0, locals := 27 } : Room).cells ({ frames := 2, cells := 0, slots := 0, locals := 27 } : Room).slots) := by
  refine MetFree.of_bodySF (plainFor_of_name pn_4) hisR ?_
  intro p e s m args below meth c s₁ Bd hml0 hP hK
  obtain ⟨rfl, hZ, hh⟩ := hP
  have hx := Bd.exec
  have hby := Bd.bytes
  have hml : c.maxLocals = 5 := hml0
  have hown : s.vm.findClass "com/example/nosograph/nosograph/ranking/DocumentSums" = some m.cls := findClass_of_methodNamed Bd.named
  have hnm := (name_of_methodNamed Bd.named Bd.method).1
  have X0 : Stand p l e ({ frames := 2, cells := 0, slots := 0, locals := 27 } : Room) s m #[(.ref a1), (.int dd), (.double (FP.l2d xx))] below meth c s₁ [] 0 0 := Stand.of_body Bd
  have e0 : s₁.heap = h0 := by rw [← hh, Bd.state]; rfl
  have N0 := Fr.nil n0
  have K0 := Keep.refl h0 [a1, ta, da, sa, la]
  show Goes p e below s (Q_rmadd Z a1 dd xx ta da sa la ff gg FF uu n1 MM nn cc h0 n0) ({ frames := 2, cells := 0, slots := 0, locals := 27 } : Room).cells ({ frames := 2, cells := 0, slots := 0, locals := 27 } : Room).slots (s₁.setTop (entryFrame m #[(.ref a1), (.int dd), (.double (FP.l2d xx))] 5))
  refine Goes.pre (fun t kt => castTop (ef_rmadd m a1 dd xx) kt) ?_
  show Goes p e below s _ _ _ (s₁.setTop (mkF m 0 #[.val (.ref a1), .val (.int dd), .val (.double (FP.l2d xx)), .second, .unset] []))
  refine Goes.pre (fun t kt => XS.iloadN X0.here hx rfl (hb hby d6_0) rfl kt) ?_
  show Goes p e below s _ _ _ (s₁.setTop (mkF m 1 #[.val (.ref a1), .val (.int dd), .val (.double (FP.l2d xx)), .second, .unset] [(.int dd)]))
  refine Goes.pre (fun t kt => XS.aloadN X0.here hx rfl (hb hby d6_1) rfl rfl kt) ?_
  show Goes p e below s _ _ _ (s₁.setTop (mkF m 2 #[.val (.ref a1), .val (.int dd), .val (.double (FP.l2d xx)), .second, .unset] [(.ref a1), (.int dd)]))
  obtain ⟨T1, X1, e1, st1⟩ := getF X0 hx hZ hown (host := "") (Or.inl (hw _ (List.mem_of_getElem? (i := 31) rfl))) Via.refl e0 pf_F_a1_com_example_nosograph_nosograph_ranking_DocumentSums_documentCount (g := (mkF m 2 #[.val (.ref a1), .val (.int dd), .val (.double (FP.l2d xx)), .second, .unset] [(.ref a1), (.int dd)])) rfl rfl (hb hby d6_2)
  refine Goes.pre st1 ?_
  show Goes p e below s _ _ _ (T1.setTop (mkF m 5 #[.val (.ref a1), .val (.int dd), .val (.double (FP.l2d xx)), .second, .unset] [(.int nn), (.int dd)]))
  obtain ⟨_, _, ⟨T2, L2, k2, n2⟩, -, X2, ⟨Lc2, hQ2, l2, y2, z2⟩, st2⟩ := Jvm.LawKit.callS X1 hx (y := (⟨"java/util/Objects", "checkIndex", "(II)I"⟩ : MethodName)) hown (mvT hZ (hw _ (List.mem_of_getElem? (i := 42) rfl))) (mvT hZ (hw _ (List.mem_of_getElem? (i := 43) rfl))) (mvT hZ (hw _ (List.mem_of_getElem? (i := 44) rfl))) (mvT hZ (hw _ (List.mem_of_getElem? (i := 45) rfl))) (by decide) (backOf (W := 0) (rmoci l Z a0 hw [] dd nn h0 n0 Z0 (hd0) (hd1)) hZ (hw _ (List.mem_of_getElem? (i := 45) rfl)) (hw _ (List.mem_of_getElem? (i := 44) rfl)) (by decide) (by decide)) (g := (mkF m 5 #[.val (.ref a1), .val (.int dd), .val (.double (FP.l2d xx)), .second, .unset] [(.int nn), (.int dd)])) rfl (by rw [hml]; rfl) (argsL := [(.int dd), (.int nn)]) (rest := []) (lenOf pd_8 rfl) rfl (by show 2 * 0 + _ ≤ _; exact Nat.le_of_eq rfl) (hb hby d6_5) (fun _ _ => ⟨rfl, e1, (by decide : 0 + 0 ≤ _), (by decide : 0 + 0 ≤ _)⟩)
  dsimp only [Pt.U, Pt.locs, Pt.cells, Pt.slots] at X2 l2 y2 z2 st2 hQ2
  subst l2 y2 z2
  obtain ⟨rfl, Nq2, eq2⟩ := hQ2
  refine Goes.pre st2 ?_
  have N2 := Fr.app N0 Nq2
  show Goes p e below s _ _ _ (T2.setTop (mkF m 8 #[.val (.ref a1), .val (.int dd), .val (.double (FP.l2d xx)), .second, .unset] [(.int dd)]))
  refine Goes.pre (fun t kt => XS.pop X2.here hx rfl (hb hby d6_8) rfl rfl kt) ?_
  show Goes p e below s _ _ _ (T2.setTop (mkF m 9 #[.val (.ref a1), .val (.int dd), .val (.double (FP.l2d xx)), .second, .unset] []))
  refine Goes.pre (fun t kt => XS.aloadN X2.here hx rfl (hb hby d6_9) rfl rfl kt) ?_
  show Goes p e below s _ _ _ (T2.setTop (mkF m 10 #[.val (.ref a1), .val (.int dd), .val (.double (FP.l2d xx)), .second, .unset] [(.ref a1)]))
  refine Goes.pre (fun t kt => XS.iloadN X2.here hx rfl (hb hby d6_10) rfl kt) ?_
  show Goes p e below s _ _ _ (T2.setTop (mkF m 11 #[.val (.ref a1), .val (.int dd), .val (.double (FP.l2d xx)), .second, .unset] [(.int dd), (.ref a1)]))
  obtain ⟨cq4, qa4, qb4⟩ := pf_E_a1.cell
  obtain ⟨_, _, ⟨T3, L3, k3, n3⟩, -, X3, ⟨Lc3, hQ3, l3, y3, z3⟩, st3⟩ := X2.privateBack hx (y := (⟨"com/example/nosograph/nosograph/ranking/DocumentSums", "slot", "(I)I"⟩ : MethodName)) hown (mvT hZ (hw _ (List.mem_of_getElem? (i := 50) rfl))) (mvT hZ (hw _ (List.mem_of_getElem? (i := 51) rfl))) (own_selp (y := (⟨"com/example/nosograph/nosograph/ranking/DocumentSums", "slot", "(I)I"⟩ : MethodName)) (a1 := #[]) (mvT hZ (hw _ (List.mem_of_getElem? (i := 6) rfl))) (Cond.privateMethod_at (mvP hZ (hw _ (List.mem_of_getElem? (i := 52) rfl)) (args := #[]))) (mvT hZ (hw _ (List.mem_of_getElem? (i := 51) rfl))) (by decide)) (Cond.privateMethod_at (mvP hZ (hw _ (List.mem_of_getElem? (i := 52) rfl)) (args := #[]))) (mvT hZ (hw _ (List.mem_of_getElem? (i := 53) rfl))) (by decide) (backOf (W := 0) (rmslot l Z a0 hw [] a1 dd ta da ff gg n1 h0 n0 Z0 pf_F_a1_com_example_nosograph_nosograph_ranking_DocumentSums_table pf_F_a1_com_example_nosograph_nosograph_ranking_DocumentSums_shift pf_F_a1_com_example_nosograph_nosograph_ranking_DocumentSums_documents pf_I_ta pf_I_da (hR.1)) hZ (hw _ (List.mem_of_getElem? (i := 53) rfl)) (hw _ (List.mem_of_getElem? (i := 7) rfl)) (by decide) (by decide)) (g := (mkF m 11 #[.val (.ref a1), .val (.int dd), .val (.double (FP.l2d xx)), .second, .unset] [(.int dd), (.ref a1)])) rfl (by rw [hml]; rfl) (Steps.refl _) (a := a1) (by rw [eq2]; exact qa4) qb4 (argsL := [(.int dd)]) (rest := []) (lenOf pd_2 rfl) rfl (by show 2 * 0 + _ ≤ _; exact Nat.le_of_eq rfl) (hb hby d6_11) (fun _ _ => ⟨rfl, eq2, (by decide : 0 + 0 ≤ _), (by decide : 0 + 0 ≤ _)⟩)
  dsimp only [Pt.U, Pt.locs, Pt.cells, Pt.slots] at X3 l3 y3 z3 st3 hQ3
  subst l3 y3 z3
  obtain ⟨sl_3, rfl, Nq3, eq3, pq3_0⟩ := hQ3
  refine Goes.run st3 ?_
  have N3 := Fr.app N2 Nq3
  show Goes p e below s _ _ _ (T3.setTop (mkF m 14 #[.val (.ref a1), .val (.int dd), .val (.double (FP.l2d xx)), .second, .unset] [(.int sl_3)]))
  refine Goes.pre (fun t kt => XS.istore X3.here hx rfl (hb hby d6_14) rfl (l' := #[.val (.ref a1), .val (.int dd), .val (.double (FP.l2d xx)), .second, .val (.int sl_3)]) rfl kt) ?_
  show Goes p e below s _ _ _ (T3.setTop (mkF m 16 #[.val (.ref a1), .val (.int dd), .val (.double (FP.l2d xx)), .second, .val (.int sl_3)] []))
  refine Goes.pre (fun t kt => XS.aloadN X3.here hx rfl (hb hby d6_16) rfl rfl kt) ?_
  show Goes p e below s _ _ _ (T3.setTop (mkF m 17 #[.val (.ref a1), .val (.int dd), .val (.double (FP.l2d xx)), .second, .val (.int sl_3)] [(.ref a1)]))
  obtain ⟨T5, X5, e5, st5⟩ := getF X3 hx hZ hown (host := "") (Or.inl (hw _ (List.mem_of_getElem? (i := 15) rfl))) Via.refl eq3 pf_F_a1_com_example_nosograph_nosograph_ranking_DocumentSums_table (g := (mkF m 17 #[.val (.ref a1), .val (.int dd), .val (.double (FP.l2d xx)), .second, .val (.int sl_3)] [(.ref a1)])) rfl rfl (hb hby d6_17)
  refine Goes.pre st5 ?_
  show Goes p e below s _ _ _ (T5.setTop (mkF m 20 #[.val (.ref a1), .val (.int dd), .val (.double (FP.l2d xx)), .second, .val (.int sl_3)] [(.ref ta)]))
  refine Goes.pre (fun t kt => XS.iload X5.here hx rfl (hb hby d6_20) rfl kt) ?_
  show Goes p e below s _ _ _ (T5.setTop (mkF m 22 #[.val (.ref a1), .val (.int dd), .val (.double (FP.l2d xx)), .second, .val (.int sl_3)] [(.int sl_3), (.ref ta)]))
  obtain ⟨cl6, Ar6, aS6, aN6, aH6⟩ := pf_I_ta
  have In6 : OwnI Z h0 ta (16 : Int32) ff := ⟨cl6, Ar6, aS6, aN6, aH6⟩
  have hin6 : ¬ (sl_3 < 0 ∨ cl6.slots.size ≤ (sl_3).toNatClampNeg) := inb_of aS6 ⟨(own_slotR pq3_0).1, (own_slotR pq3_0).2⟩
  have hat6 : cl6.slots[(sl_3).toNatClampNeg]? = some (.int (ff sl_3)) := aH6 _ (own_slotR pq3_0).1 (own_slotR pq3_0).2
  refine Goes.pre (X5.iaload hx (j := sl_3) (v := (.int (ff sl_3))) (by rw [e5]; exact Ar6.1) (State.isArrayOf_alike hZ.alike Ar6.2.1) Ar6.2.2 hin6 hat6 (g := (mkF m 22 #[.val (.ref a1), .val (.int dd), .val (.double (FP.l2d xx)), .second, .val (.int sl_3)] [(.int sl_3), (.ref ta)])) rfl rfl (hb hby d6_22)) ?_
  show Goes p e below s _ _ _ (T5.setTop (mkF m 23 #[.val (.ref a1), .val (.int dd), .val (.double (FP.l2d xx)), .second, .val (.int sl_3)] [(.int (ff sl_3))]))
  refine Goes.pre (fun t kt => XS.iconst X5.here hx rfl (hb hby d6_23) kt) ?_
  show Goes p e below s _ _ _ (T5.setTop (mkF m 24 #[.val (.ref a1), .val (.int dd), .val (.double (FP.l2d xx)), .second, .val (.int sl_3)] [(.int (-1 : Int32)), (.int (ff sl_3))]))
  by_cases hc24 : (ff sl_3) = (-1 : Int32)
  · refine Goes.pre (fun t kt => XS.icmpNo X5.here hx rfl (hb hby d6_24) rfl (Jvm.Free.XT.ii_ne_f (hc24)) kt) ?_
    show Goes p e below s _ _ _ (T5.setTop (mkF m 27 #[.val (.ref a1), .val (.int dd), .val (.double (FP.l2d xx)), .second, .val (.int sl_3)] []))
    refine Goes.pre (fun t kt => XS.iconst X5.here hx rfl (hb hby d6_27) kt) ?_
    show Goes p e below s _ _ _ (T5.setTop (mkF m 28 #[.val (.ref a1), .val (.int dd), .val (.double (FP.l2d xx)), .second, .val (.int sl_3)] [(.int (2 : Int32))]))
    refine Goes.pre (fun t kt => XS.aloadN X5.here hx rfl (hb hby d6_28) rfl rfl kt) ?_
    show Goes p e below s _ _ _ (T5.setTop (mkF m 29 #[.val (.ref a1), .val (.int dd), .val (.double (FP.l2d xx)), .second, .val (.int sl_3)] [(.ref a1), (.int (2 : Int32))]))
    obtain ⟨T7, X7, e7, st7⟩ := getF X5 hx hZ hown (host := "") (Or.inl (hw _ (List.mem_of_getElem? (i := 55) rfl))) Via.refl e5 pf_F_a1_com_example_nosograph_nosograph_ranking_DocumentSums_count (g := (mkF m 29 #[.val (.ref a1), .val (.int dd), .val (.double (FP.l2d xx)), .second, .val (.int sl_3)] [(.ref a1), (.int (2 : Int32))])) rfl rfl (hb hby d6_29)
    refine Goes.pre st7 ?_
    show Goes p e below s _ _ _ (T7.setTop (mkF m 32 #[.val (.ref a1), .val (.int dd), .val (.double (FP.l2d xx)), .second, .val (.int sl_3)] [(.int cc), (.int (2 : Int32))]))
    refine Goes.pre (fun t kt => XS.iconst X7.here hx rfl (hb hby d6_32) kt) ?_
    show Goes p e below s _ _ _ (T7.setTop (mkF m 33 #[.val (.ref a1), .val (.int dd), .val (.double (FP.l2d xx)), .second, .val (.int sl_3)] [(.int (1 : Int32)), (.int cc), (.int (2 : Int32))]))
    refine Goes.pre (fun t kt => XS.iadd X7.here hx rfl (hb hby d6_33) rfl kt) ?_
    show Goes p e below s _ _ _ (T7.setTop (mkF m 34 #[.val (.ref a1), .val (.int dd), .val (.double (FP.l2d xx)), .second, .val (.int sl_3)] [(.int (cc + (1 : Int32))), (.int (2 : Int32))]))
    refine Goes.pre (fun t kt => XS.imul X7.here hx rfl (hb hby d6_34) rfl kt) ?_
    show Goes p e below s _ _ _ (T7.setTop (mkF m 35 #[.val (.ref a1), .val (.int dd), .val (.double (FP.l2d xx)), .second, .val (.int sl_3)] [(.int ((2 : Int32) * (cc + (1 : Int32))))]))
    refine Goes.pre (fun t kt => XS.aloadN X7.here hx rfl (hb hby d6_35) rfl rfl kt) ?_
    show Goes p e below s _ _ _ (T7.setTop (mkF m 36 #[.val (.ref a1), .val (.int dd), .val (.double (FP.l2d xx)), .second, .val (.int sl_3)] [(.ref a1), (.int ((2 : Int32) * (cc + (1 : Int32))))]))
    obtain ⟨T8, X8, e8, st8⟩ := getF X7 hx hZ hown (host := "") (Or.inl (hw _ (List.mem_of_getElem? (i := 15) rfl))) Via.refl e7 pf_F_a1_com_example_nosograph_nosograph_ranking_DocumentSums_table (g := (mkF m 36 #[.val (.ref a1), .val (.int dd), .val (.double (FP.l2d xx)), .second, .val (.int sl_3)] [(.ref a1), (.int ((2 : Int32) * (cc + (1 : Int32))))])) rfl rfl (hb hby d6_36)
    refine Goes.pre st8 ?_
    show Goes p e below s _ _ _ (T8.setTop (mkF m 39 #[.val (.ref a1), .val (.int dd), .val (.double (FP.l2d xx)), .second, .val (.int sl_3)] [(.ref ta), (.int ((2 : Int32) * (cc + (1 : Int32))))]))
    obtain ⟨cl9, Ar9, aS9, aN9, aH9⟩ := In6
    have In9 : OwnI Z h0 ta (16 : Int32) ff := ⟨cl9, Ar9, aS9, aN9, aH9⟩
    refine Goes.pre (X8.arraylength hx (by rw [e8]; exact Ar9.1) (State.isArrayOf_alike hZ.alike Ar9.2.1) (g := (mkF m 39 #[.val (.ref a1), .val (.int dd), .val (.double (FP.l2d xx)), .second, .val (.int sl_3)] [(.ref ta), (.int ((2 : Int32) * (cc + (1 : Int32))))])) rfl rfl (hb hby d6_39)) ?_
    rw [len_of aS9 aN9]
    show Goes p e below s _ _ _ (T8.setTop (mkF m 40 #[.val (.ref a1), .val (.int dd), .val (.double (FP.l2d xx)), .second, .val (.int sl_3)] [(.int (16 : Int32)), (.int ((2 : Int32) * (cc + (1 : Int32))))]))
    refine Goes.pre (fun t kt => XS.icmpYes X8.here hx rfl (pc0 := 40) (pc' := 54) rfl (hb hby d6_40) rfl (Jvm.Free.XT.ii_le_t ((own_cntR hcc hn).2.2.1)) (by decide) (by decide) kt) ?_
    show Goes p e below s _ _ _ (T8.setTop (mkF m 54 #[.val (.ref a1), .val (.int dd), .val (.double (FP.l2d xx)), .second, .val (.int sl_3)] []))
    refine Goes.pre (fun t kt => XS.aloadN X8.here hx rfl (hb hby d6_54) rfl rfl kt) ?_
    show Goes p e below s _ _ _ (T8.setTop (mkF m 55 #[.val (.ref a1), .val (.int dd), .val (.double (FP.l2d xx)), .second, .val (.int sl_3)] [(.ref a1)]))
    obtain ⟨T10, X10, e10, st10⟩ := getF X8 hx hZ hown (host := "") (Or.inl (hw _ (List.mem_of_getElem? (i := 15) rfl))) Via.refl e8 pf_F_a1_com_example_nosograph_nosograph_ranking_DocumentSums_table (g := (mkF m 55 #[.val (.ref a1), .val (.int dd), .val (.double (FP.l2d xx)), .second, .val (.int sl_3)] [(.ref a1)])) rfl rfl (hb hby d6_55)
    refine Goes.pre st10 ?_
    show Goes p e below s _ _ _ (T10.setTop (mkF m 58 #[.val (.ref a1), .val (.int dd), .val (.double (FP.l2d xx)), .second, .val (.int sl_3)] [(.ref ta)]))
    refine Goes.pre (fun t kt => XS.iload X10.here hx rfl (hb hby d6_58) rfl kt) ?_
    show Goes p e below s _ _ _ (T10.setTop (mkF m 60 #[.val (.ref a1), .val (.int dd), .val (.double (FP.l2d xx)), .second, .val (.int sl_3)] [(.int sl_3), (.ref ta)]))
    refine Goes.pre (fun t kt => XS.aloadN X10.here hx rfl (hb hby d6_60) rfl rfl kt) ?_
    show Goes p e below s _ _ _ (T10.setTop (mkF m 61 #[.val (.ref a1), .val (.int dd), .val (.double (FP.l2d xx)), .second, .val (.int sl_3)] [(.ref a1), (.int sl_3), (.ref ta)]))
    obtain ⟨T11, X11, e11, st11⟩ := getF X10 hx hZ hown (host := "") (Or.inl (hw _ (List.mem_of_getElem? (i := 55) rfl))) Via.refl e10 pf_F_a1_com_example_nosograph_nosograph_ranking_DocumentSums_count (g := (mkF m 61 #[.val (.ref a1), .val (.int dd), .val (.double (FP.l2d xx)), .second, .val (.int sl_3)] [(.ref a1), (.int sl_3), (.ref ta)])) rfl rfl (hb hby d6_61)
    refine Goes.pre st11 ?_
    show Goes p e below s _ _ _ (T11.setTop (mkF m 64 #[.val (.ref a1), .val (.int dd), .val (.double (FP.l2d xx)), .second, .val (.int sl_3)] [(.int cc), (.int sl_3), (.ref ta)]))
    obtain ⟨cl12, Ar12, aS12, aN12, aH12⟩ := In9
    have In12 : OwnI Z h0 ta (16 : Int32) ff := ⟨cl12, Ar12, aS12, aN12, aH12⟩
    have hin12 : ¬ (sl_3 < 0 ∨ cl12.slots.size ≤ (sl_3).toNatClampNeg) := inb_of aS12 ⟨(own_slotR pq3_0).1, (own_slotR pq3_0).2⟩
    obtain ⟨T12, h12, X12, e12, W12, st12⟩ := stI X11 hx hZ e11 Ar12 (j := sl_3) hin12 (g := (mkF m 64 #[.val (.ref a1), .val (.int dd), .val (.double (FP.l2d xx)), .second, .val (.int sl_3)] [(.int cc), (.int sl_3), (.ref ta)])) rfl rfl (hb hby d6_64)
    refine Goes.pre st12 ?_
    have Z12 : n0 ≤ h12.size := Nat.le_trans Z0 (Keep.of_wr W12).1
    have N12 := Fr.snoc X12 N3 pf_G_ta
    have K12 := K0.wr W12 (Or.inl (List.mem_of_getElem? (i := 1) rfl))
    have Iw12 : OwnI Z h12 ta (16 : Int32) (own_upd ff sl_3 cc) := OwnI.set Ar12 aS12 aN12 aH12 W12 (own_slotR pq3_0).1 (own_slotR pq3_0).2
    show Goes p e below s _ _ _ (T12.setTop (mkF m 65 #[.val (.ref a1), .val (.int dd), .val (.double (FP.l2d xx)), .second, .val (.int sl_3)] []))
    refine Goes.pre (fun t kt => XS.aloadN X12.here hx rfl (hb hby d6_65) rfl rfl kt) ?_
    show Goes p e below s _ _ _ (T12.setTop (mkF m 66 #[.val (.ref a1), .val (.int dd), .val (.double (FP.l2d xx)), .second, .val (.int sl_3)] [(.ref a1)]))
    have fc13 : Fld Z h12 a1 "com/example/nosograph/nosograph/ranking/DocumentSums" "documents" "[I" (.ref da) := (pf_F_a1_com_example_nosograph_nosograph_ranking_DocumentSums_documents.other W12 (Or.inl (Ne.symm pf_NE_ta_a1)))
    obtain ⟨T14, X14, e14, st14⟩ := getF X12 hx hZ hown (host := "") (Or.inl (hw _ (List.mem_of_getElem? (i := 24) rfl))) Via.refl e12 fc13 (g := (mkF m 66 #[.val (.ref a1), .val (.int dd), .val (.double (FP.l2d xx)), .second, .val (.int sl_3)] [(.ref a1)])) rfl rfl (hb hby d6_66)
    refine Goes.pre st14 ?_
    show Goes p e below s _ _ _ (T14.setTop (mkF m 69 #[.val (.ref a1), .val (.int dd), .val (.double (FP.l2d xx)), .second, .val (.int sl_3)] [(.ref da)]))
    refine Goes.pre (fun t kt => XS.aloadN X14.here hx rfl (hb hby d6_69) rfl rfl kt) ?_
    show Goes p e below s _ _ _ (T14.setTop (mkF m 70 #[.val (.ref a1), .val (.int dd), .val (.double (FP.l2d xx)), .second, .val (.int sl_3)] [(.ref a1), (.ref da)]))
    have fc15 : Fld Z h12 a1 "com/example/nosograph/nosograph/ranking/DocumentSums" "count" "I" (.int cc) := (pf_F_a1_com_example_nosograph_nosograph_ranking_DocumentSums_count.other W12 (Or.inl (Ne.symm pf_NE_ta_a1)))
    obtain ⟨T16, X16, e16, st16⟩ := getF X14 hx hZ hown (host := "") (Or.inl (hw _ (List.mem_of_getElem? (i := 55) rfl))) Via.refl e14 fc15 (g := (mkF m 70 #[.val (.ref a1), .val (.int dd), .val (.double (FP.l2d xx)), .second, .val (.int sl_3)] [(.ref a1), (.ref da)])) rfl rfl (hb hby d6_70)
    refine Goes.pre st16 ?_
    show Goes p e below s _ _ _ (T16.setTop (mkF m 73 #[.val (.ref a1), .val (.int dd), .val (.double (FP.l2d xx)), .second, .val (.int sl_3)] [(.int cc), (.ref da)]))
    refine Goes.pre (fun t kt => XS.iloadN X16.here hx rfl (hb hby d6_73) rfl kt) ?_
    show Goes p e below s _ _ _ (T16.setTop (mkF m 74 #[.val (.ref a1), .val (.int dd), .val (.double (FP.l2d xx)), .second, .val (.int sl_3)] [(.int dd), (.int cc), (.ref da)]))
    have fc17 : OwnI Z h12 da (8 : Int32) gg := (pf_I_da.other W12 pf_NE_da_ta)
    obtain ⟨cl18, Ar18, aS18, aN18, aH18⟩ := fc17
    have In18 : OwnI Z h12 da (8 : Int32) gg := ⟨cl18, Ar18, aS18, aN18, aH18⟩
    have hin18 : ¬ (cc < 0 ∨ cl18.slots.size ≤ (cc).toNatClampNeg) := inb_of aS18 ⟨(own_cntR hcc hn).1, (own_cntR hcc hn).2.1⟩
    obtain ⟨T18, h18, X18, e18, W18, st18⟩ := stI X16 hx hZ e16 Ar18 (j := cc) hin18 (g := (mkF m 74 #[.val (.ref a1), .val (.int dd), .val (.double (FP.l2d xx)), .second, .val (.int sl_3)] [(.int dd), (.int cc), (.ref da)])) rfl rfl (hb hby d6_74)
    refine Goes.pre st18 ?_
    have Z18 : n0 ≤ h18.size := Nat.le_trans Z12 (Keep.of_wr W18).1
    have N18 := Fr.snoc X18 N12 pf_G_da
    have K18 := K12.wr W18 (Or.inl (List.mem_of_getElem? (i := 2) rfl))
    have Iw18 : OwnI Z h18 da (8 : Int32) (own_upd gg cc dd) := OwnI.set Ar18 aS18 aN18 aH18 W18 (own_cntR hcc hn).1 (own_cntR hcc hn).2.1
    show Goes p e below s _ _ _ (T18.setTop (mkF m 75 #[.val (.ref a1), .val (.int dd), .val (.double (FP.l2d xx)), .second, .val (.int sl_3)] []))
    refine Goes.pre (fun t kt => XS.aloadN X18.here hx rfl (hb hby d6_75) rfl rfl kt) ?_
    show Goes p e below s _ _ _ (T18.setTop (mkF m 76 #[.val (.ref a1), .val (.int dd), .val (.double (FP.l2d xx)), .second, .val (.int sl_3)] [(.ref a1)]))
    have fc19 : Fld Z h18 a1 "com/example/nosograph/nosograph/ranking/DocumentSums" "sums" "[D" (.ref sa) := ((pf_F_a1_com_example_nosograph_nosograph_ranking_DocumentSums_sums.other W12 (Or.inl (Ne.symm pf_NE_ta_a1))).other W18 (Or.inl (Ne.symm pf_NE_da_a1)))
    obtain ⟨T20, X20, e20, st20⟩ := getF X18 hx hZ hown (host := "") (Or.inl (hw _ (List.mem_of_getElem? (i := 27) rfl))) Via.refl e18 fc19 (g := (mkF m 76 #[.val (.ref a1), .val (.int dd), .val (.double (FP.l2d xx)), .second, .val (.int sl_3)] [(.ref a1)])) rfl rfl (hb hby d6_76)
    refine Goes.pre st20 ?_
    show Goes p e below s _ _ _ (T20.setTop (mkF m 79 #[.val (.ref a1), .val (.int dd), .val (.double (FP.l2d xx)), .second, .val (.int sl_3)] [(.ref sa)]))
    refine Goes.pre (fun t kt => XS.aloadN X20.here hx rfl (hb hby d6_79) rfl rfl kt) ?_
    show Goes p e below s _ _ _ (T20.setTop (mkF m 80 #[.val (.ref a1), .val (.int dd), .val (.double (FP.l2d xx)), .second, .val (.int sl_3)] [(.ref a1), (.ref sa)]))
    have fc21 : Fld Z h18 a1 "com/example/nosograph/nosograph/ranking/DocumentSums" "count" "I" (.int cc) := (fc15.other W18 (Or.inl (Ne.symm pf_NE_da_a1)))
    obtain ⟨T22, X22, e22, st22⟩ := getF X20 hx hZ hown (host := "") (Or.inl (hw _ (List.mem_of_getElem? (i := 55) rfl))) Via.refl e20 fc21 (g := (mkF m 80 #[.val (.ref a1), .val (.int dd), .val (.double (FP.l2d xx)), .second, .val (.int sl_3)] [(.ref a1), (.ref sa)])) rfl rfl (hb hby d6_80)
    refine Goes.pre st22 ?_
    show Goes p e below s _ _ _ (T22.setTop (mkF m 83 #[.val (.ref a1), .val (.int dd), .val (.double (FP.l2d xx)), .second, .val (.int sl_3)] [(.int cc), (.ref sa)]))
    refine Goes.pre (fun t kt => XS.dconst0 X22.here hx rfl (hb hby d6_83) (v := (FP.l2d 0)) (by decide +kernel) kt) ?_
    show Goes p e below s _ _ _ (T22.setTop (mkF m 84 #[.val (.ref a1), .val (.int dd), .val (.double (FP.l2d xx)), .second, .val (.int sl_3)] [(.double (FP.l2d 0)), (.int cc), (.ref sa)]))
    have fc23 : OwnD Z h18 sa (8 : Int32) FF := ((pf_B_sa.other W12 pf_NE_sa_ta).other W18 pf_NE_sa_da)
    obtain ⟨cl24, Ar24, aS24, aN24, aH24⟩ := fc23
    have In24 : OwnD Z h18 sa (8 : Int32) FF := ⟨cl24, Ar24, aS24, aN24, aH24⟩
    have hin24 : ¬ (cc < 0 ∨ cl24.slots.size ≤ (cc).toNatClampNeg) := inb_of aS24 ⟨(own_cntR hcc hn).1, (own_cntR hcc hn).2.1⟩
    obtain ⟨T24, h24, X24, e24, W24, st24⟩ := stD X22 hx hZ e22 Ar24 (j := cc) hin24 (g := (mkF m 84 #[.val (.ref a1), .val (.int dd), .val (.double (FP.l2d xx)), .second, .val (.int sl_3)] [(.double (FP.l2d 0)), (.int cc), (.ref sa)])) rfl rfl (hb hby d6_84)
    refine Goes.pre st24 ?_
    have Z24 : n0 ≤ h24.size := Nat.le_trans Z18 (Keep.of_wr W24).1
    have N24 := Fr.snoc X24 N18 pf_G_sa
    have K24 := K18.wr W24 (Or.inl (List.mem_of_getElem? (i := 3) rfl))
    have Iw24 : OwnD Z h24 sa (8 : Int32) (own_upd FF cc (FP.l2d 0)) := OwnD.set Ar24 aS24 aN24 aH24 W24 (own_cntR hcc hn).1 (own_cntR hcc hn).2.1
    show Goes p e below s _ _ _ (T24.setTop (mkF m 85 #[.val (.ref a1), .val (.int dd), .val (.double (FP.l2d xx)), .second, .val (.int sl_3)] []))
    refine Goes.pre (fun t kt => XS.aloadN X24.here hx rfl (hb hby d6_85) rfl rfl kt) ?_
    show Goes p e below s _ _ _ (T24.setTop (mkF m 86 #[.val (.ref a1), .val (.int dd), .val (.double (FP.l2d xx)), .second, .val (.int sl_3)] [(.ref a1)]))
    have fc25 : Fld Z h24 a1 "com/example/nosograph/nosograph/ranking/DocumentSums" "slots" "[I" (.ref la) := (((pf_F_a1_com_example_nosograph_nosograph_ranking_DocumentSums_slots.other W12 (Or.inl (Ne.symm pf_NE_ta_a1))).other W18 (Or.inl (Ne.symm pf_NE_da_a1))).other W24 (Or.inl (Ne.symm pf_NE_sa_a1)))
    obtain ⟨T26, X26, e26, st26⟩ := getF X24 hx hZ hown (host := "") (Or.inl (hw _ (List.mem_of_getElem? (i := 29) rfl))) Via.refl e24 fc25 (g := (mkF m 86 #[.val (.ref a1), .val (.int dd), .val (.double (FP.l2d xx)), .second, .val (.int sl_3)] [(.ref a1)])) rfl rfl (hb hby d6_86)
    refine Goes.pre st26 ?_
    show Goes p e below s _ _ _ (T26.setTop (mkF m 89 #[.val (.ref a1), .val (.int dd), .val (.double (FP.l2d xx)), .second, .val (.int sl_3)] [(.ref la)]))
    refine Goes.pre (fun t kt => XS.aloadN X26.here hx rfl (hb hby d6_89) rfl rfl kt) ?_
    show Goes p e below s _ _ _ (T26.setTop (mkF m 90 #[.val (.ref a1), .val (.int dd), .val (.double (FP.l2d xx)), .second, .val (.int sl_3)] [(.ref a1), (.ref la)]))
    have fc27 : Fld Z h24 a1 "com/example/nosograph/nosograph/ranking/DocumentSums" "count" "I" (.int cc) := (fc21.other W24 (Or.inl (Ne.symm pf_NE_sa_a1)))
    obtain ⟨T28, X28, e28, st28⟩ := getF X26 hx hZ hown (host := "") (Or.inl (hw _ (List.mem_of_getElem? (i := 55) rfl))) Via.refl e26 fc27 (g := (mkF m 90 #[.val (.ref a1), .val (.int dd), .val (.double (FP.l2d xx)), .second, .val (.int sl_3)] [(.ref a1), (.ref la)])) rfl rfl (hb hby d6_90)
    refine Goes.pre st28 ?_
    show Goes p e below s _ _ _ (T28.setTop (mkF m 93 #[.val (.ref a1), .val (.int dd), .val (.double (FP.l2d xx)), .second, .val (.int sl_3)] [(.int cc), (.ref la)]))
    refine Goes.pre (fun t kt => XS.iload X28.here hx rfl (hb hby d6_93) rfl kt) ?_
    show Goes p e below s _ _ _ (T28.setTop (mkF m 95 #[.val (.ref a1), .val (.int dd), .val (.double (FP.l2d xx)), .second, .val (.int sl_3)] [(.int sl_3), (.int cc), (.ref la)]))
    have fc29 : OwnI Z h24 la (8 : Int32) uu := (((pf_I_la.other W12 pf_NE_la_ta).other W18 pf_NE_la_da).other W24 pf_NE_la_sa)
    obtain ⟨cl30, Ar30, aS30, aN30, aH30⟩ := fc29
    have In30 : OwnI Z h24 la (8 : Int32) uu := ⟨cl30, Ar30, aS30, aN30, aH30⟩
    have hin30 : ¬ (cc < 0 ∨ cl30.slots.size ≤ (cc).toNatClampNeg) := inb_of aS30 ⟨(own_cntR hcc hn).1, (own_cntR hcc hn).2.1⟩
    obtain ⟨T30, h30, X30, e30, W30, st30⟩ := stI X28 hx hZ e28 Ar30 (j := cc) hin30 (g := (mkF m 95 #[.val (.ref a1), .val (.int dd), .val (.double (FP.l2d xx)), .second, .val (.int sl_3)] [(.int sl_3), (.int cc), (.ref la)])) rfl rfl (hb hby d6_95)
    refine Goes.pre st30 ?_
    have Z30 : n0 ≤ h30.size := Nat.le_trans Z24 (Keep.of_wr W30).1
    have N30 := Fr.snoc X30 N24 pf_G_la
    have K30 := K24.wr W30 (Or.inl (List.mem_of_getElem? (i := 4) rfl))
    have Iw30 : OwnI Z h30 la (8 : Int32) (own_upd uu cc sl_3) := OwnI.set Ar30 aS30 aN30 aH30 W30 (own_cntR hcc hn).1 (own_cntR hcc hn).2.1
    show Goes p e below s _ _ _ (T30.setTop (mkF m 96 #[.val (.ref a1), .val (.int dd), .val (.double (FP.l2d xx)), .second, .val (.int sl_3)] []))
    refine Goes.pre (fun t kt => XS.aloadN X30.here hx rfl (hb hby d6_96) rfl rfl kt) ?_
    show Goes p e below s _ _ _ (T30.setTop (mkF m 97 #[.val (.ref a1), .val (.int dd), .val (.double (FP.l2d xx)), .second, .val (.int sl_3)] [(.ref a1)]))
    refine Goes.pre (fun t kt => XS.dup X30.here hx rfl (hb hby d6_97) rfl rfl kt) ?_
    show Goes p e below s _ _ _ (T30.setTop (mkF m 98 #[.val (.ref a1), .val (.int dd), .val (.double (FP.l2d xx)), .second, .val (.int sl_3)] [(.ref a1), (.ref a1)]))
    have fc31 : Fld Z h30 a1 "com/example/nosograph/nosograph/ranking/DocumentSums" "count" "I" (.int cc) := (fc27.other W30 (Or.inl (Ne.symm pf_NE_la_a1)))
    obtain ⟨T32, X32, e32, st32⟩ := getF X30 hx hZ hown (host := "") (Or.inl (hw _ (List.mem_of_getElem? (i := 55) rfl))) Via.refl e30 fc31 (g := (mkF m 98 #[.val (.ref a1), .val (.int dd), .val (.double (FP.l2d xx)), .second, .val (.int sl_3)] [(.ref a1), (.ref a1)])) rfl rfl (hb hby d6_98)
    refine Goes.pre st32 ?_
    show Goes p e below s _ _ _ (T32.setTop (mkF m 101 #[.val (.ref a1), .val (.int dd), .val (.double (FP.l2d xx)), .second, .val (.int sl_3)] [(.int cc), (.ref a1)]))
    refine Goes.pre (fun t kt => XS.iconst X32.here hx rfl (hb hby d6_101) kt) ?_
    show Goes p e below s _ _ _ (T32.setTop (mkF m 102 #[.val (.ref a1), .val (.int dd), .val (.double (FP.l2d xx)), .second, .val (.int sl_3)] [(.int (1 : Int32)), (.int cc), (.ref a1)]))
    refine Goes.pre (fun t kt => XS.iadd X32.here hx rfl (hb hby d6_102) rfl kt) ?_
    show Goes p e below s _ _ _ (T32.setTop (mkF m 103 #[.val (.ref a1), .val (.int dd), .val (.double (FP.l2d xx)), .second, .val (.int sl_3)] [(.int (cc + (1 : Int32))), (.ref a1)]))
    have fc33 : Exa Z h30 a1 "com/example/nosograph/nosograph/ranking/DocumentSums" := ((((pf_E_a1.wr W12).wr W18).wr W24).wr W30)
    obtain ⟨T34, h34, X34, e34, W34, st34⟩ := putF X32 hx hZ hown (host := "") (Or.inl (hw _ (List.mem_of_getElem? (i := 55) rfl))) Via.refl e32 fc31 fc33 (Or.inl (hw _ (List.mem_of_getElem? (i := 56) rfl))) (hw _ (List.mem_of_getElem? (i := 6) rfl)) (ty := .int) (by decide) rfl rfl (g := (mkF m 103 #[.val (.ref a1), .val (.int dd), .val (.double (FP.l2d xx)), .second, .val (.int sl_3)] [(.int (cc + (1 : Int32))), (.ref a1)])) rfl rfl (hb hby d6_103)
    refine Goes.pre st34 ?_
    have Z34 : n0 ≤ h34.size := Nat.le_trans Z30 (Keep.of_wr W34).1
    have N34 := Fr.snoc X34 N30 pf_G_a1
    have K34 := K30.wr W34 (Or.inl (List.mem_of_getElem? (i := 0) rfl))
    have Fw34 : Fld Z h34 a1 "com/example/nosograph/nosograph/ranking/DocumentSums" "count" "I" (.int (cc + (1 : Int32))) := fc31.same W34
    show Goes p e below s _ _ _ (T34.setTop (mkF m 106 #[.val (.ref a1), .val (.int dd), .val (.double (FP.l2d xx)), .second, .val (.int sl_3)] []))
    refine Goes.pre (fun t kt => XS.aloadN X34.here hx rfl (hb hby d6_106) rfl rfl kt) ?_
    show Goes p e below s _ _ _ (T34.setTop (mkF m 107 #[.val (.ref a1), .val (.int dd), .val (.double (FP.l2d xx)), .second, .val (.int sl_3)] [(.ref a1)]))
    have fc35 : Fld Z h34 a1 "com/example/nosograph/nosograph/ranking/DocumentSums" "sums" "[D" (.ref sa) := (((fc19.other W24 (Or.inl (Ne.symm pf_NE_sa_a1))).other W30 (Or.inl (Ne.symm pf_NE_la_a1))).other W34 (Or.inr (slot_ne (Or.inl (hw _ (List.mem_of_getElem? (i := 28) rfl))) (Or.inl (hw _ (List.mem_of_getElem? (i := 56) rfl))) (by decide) (t := (.array .double)) (t' := .int) (by decide) (by decide))))
    obtain ⟨T36, X36, e36, st36⟩ := getF X34 hx hZ hown (host := "") (Or.inl (hw _ (List.mem_of_getElem? (i := 27) rfl))) Via.refl e34 fc35 (g := (mkF m 107 #[.val (.ref a1), .val (.int dd), .val (.double (FP.l2d xx)), .second, .val (.int sl_3)] [(.ref a1)])) rfl rfl (hb hby d6_107)
    refine Goes.pre st36 ?_
    show Goes p e below s _ _ _ (T36.setTop (mkF m 110 #[.val (.ref a1), .val (.int dd), .val (.double (FP.l2d xx)), .second, .val (.int sl_3)] [(.ref sa)]))
    refine Goes.pre (fun t kt => XS.aloadN X36.here hx rfl (hb hby d6_110) rfl rfl kt) ?_
    show Goes p e below s _ _ _ (T36.setTop (mkF m 111 #[.val (.ref a1), .val (.int dd), .val (.double (FP.l2d xx)), .second, .val (.int sl_3)] [(.ref a1), (.ref sa)]))
    have fc37 : Fld Z h34 a1 "com/example/nosograph/nosograph/ranking/DocumentSums" "table" "[I" (.ref ta) := (((((pf_F_a1_com_example_nosograph_nosograph_ranking_DocumentSums_table.other W12 (Or.inl (Ne.symm pf_NE_ta_a1))).other W18 (Or.inl (Ne.symm pf_NE_da_a1))).other W24 (Or.inl (Ne.symm pf_NE_sa_a1))).other W30 (Or.inl (Ne.symm pf_NE_la_a1))).other W34 (Or.inr (slot_ne (Or.inl (hw _ (List.mem_of_getElem? (i := 16) rfl))) (Or.inl (hw _ (List.mem_of_getElem? (i := 56) rfl))) (by decide) (t := (.array .int)) (t' := .int) (by decide) (by decide))))
    obtain ⟨T38, X38, e38, st38⟩ := getF X36 hx hZ hown (host := "") (Or.inl (hw _ (List.mem_of_getElem? (i := 15) rfl))) Via.refl e36 fc37 (g := (mkF m 111 #[.val (.ref a1), .val (.int dd), .val (.double (FP.l2d xx)), .second, .val (.int sl_3)] [(.ref a1), (.ref sa)])) rfl rfl (hb hby d6_111)
    refine Goes.pre st38 ?_
    show Goes p e below s _ _ _ (T38.setTop (mkF m 114 #[.val (.ref a1), .val (.int dd), .val (.double (FP.l2d xx)), .second, .val (.int sl_3)] [(.ref ta), (.ref sa)]))
    refine Goes.pre (fun t kt => XS.iload X38.here hx rfl (hb hby d6_114) rfl kt) ?_
    show Goes p e below s _ _ _ (T38.setTop (mkF m 116 #[.val (.ref a1), .val (.int dd), .val (.double (FP.l2d xx)), .second, .val (.int sl_3)] [(.int sl_3), (.ref ta), (.ref sa)]))
    have fc39 : OwnI Z h34 ta (16 : Int32) (own_upd ff sl_3 cc) := ((((Iw12.other W18 (Ne.symm pf_NE_da_ta)).other W24 (Ne.symm pf_NE_sa_ta)).other W30 (Ne.symm pf_NE_la_ta)).other W34 pf_NE_ta_a1)
    obtain ⟨cl40, Ar40, aS40, aN40, aH40⟩ := fc39
    have In40 : OwnI Z h34 ta (16 : Int32) (own_upd ff sl_3 cc) := ⟨cl40, Ar40, aS40, aN40, aH40⟩
    have hin40 : ¬ (sl_3 < 0 ∨ cl40.slots.size ≤ (sl_3).toNatClampNeg) := inb_of aS40 ⟨(own_slotR pq3_0).1, (own_slotR pq3_0).2⟩
    have hat40 : cl40.slots[(sl_3).toNatClampNeg]? = some (.int ((own_upd ff sl_3 cc) sl_3)) := aH40 _ (own_slotR pq3_0).1 (own_slotR pq3_0).2
    rw [show ((own_upd ff sl_3 cc) sl_3) = cc from own_upd_same _ _ _] at hat40
    refine Goes.pre (X38.iaload hx (j := sl_3) (v := (.int cc)) (by rw [e38]; exact Ar40.1) (State.isArrayOf_alike hZ.alike Ar40.2.1) Ar40.2.2 hin40 hat40 (g := (mkF m 116 #[.val (.ref a1), .val (.int dd), .val (.double (FP.l2d xx)), .second, .val (.int sl_3)] [(.int sl_3), (.ref ta), (.ref sa)])) rfl rfl (hb hby d6_116)) ?_
    show Goes p e below s _ _ _ (T38.setTop (mkF m 117 #[.val (.ref a1), .val (.int dd), .val (.double (FP.l2d xx)), .second, .val (.int sl_3)] [(.int cc), (.ref sa)]))
    refine Goes.pre (fun t kt => own_dup2 X38.here hx rfl (hb hby d6_117) rfl rfl rfl kt) ?_
    show Goes p e below s _ _ _ (T38.setTop (mkF m 118 #[.val (.ref a1), .val (.int dd), .val (.double (FP.l2d xx)), .second, .val (.int sl_3)] [(.int cc), (.ref sa), (.int cc), (.ref sa)]))
    have fc41 : OwnD Z h34 sa (8 : Int32) (own_upd FF cc (FP.l2d 0)) := ((Iw24.other W30 (Ne.symm pf_NE_la_sa)).other W34 pf_NE_sa_a1)
    obtain ⟨cl42, Ar42, aS42, aN42, aH42⟩ := fc41
    have In42 : OwnD Z h34 sa (8 : Int32) (own_upd FF cc (FP.l2d 0)) := ⟨cl42, Ar42, aS42, aN42, aH42⟩
    have hin42 : ¬ (cc < 0 ∨ cl42.slots.size ≤ (cc).toNatClampNeg) := inb_of aS42 ⟨(own_cntR hcc hn).1, (own_cntR hcc hn).2.1⟩
    have hat42 : cl42.slots[(cc).toNatClampNeg]? = some (.double ((own_upd FF cc (FP.l2d 0)) cc)) := aH42 _ (own_cntR hcc hn).1 (own_cntR hcc hn).2.1
    rw [show ((own_upd FF cc (FP.l2d 0)) cc) = (FP.l2d 0) from own_upd_same _ _ _] at hat42
    refine Goes.pre (X38.daload hx (j := cc) (v := (.double (FP.l2d 0))) (by rw [e38]; exact Ar42.1) (State.isArrayOf_alike hZ.alike Ar42.2.1) Ar42.2.2 hin42 hat42 (g := (mkF m 118 #[.val (.ref a1), .val (.int dd), .val (.double (FP.l2d xx)), .second, .val (.int sl_3)] [(.int cc), (.ref sa), (.int cc), (.ref sa)])) rfl rfl (hb hby d6_118)) ?_
    show Goes p e below s _ _ _ (T38.setTop (mkF m 119 #[.val (.ref a1), .val (.int dd), .val (.double (FP.l2d xx)), .second, .val (.int sl_3)] [(.double (FP.l2d 0)), (.int cc), (.ref sa)]))
    refine Goes.pre (fun t kt => XS.dloadN X38.here hx rfl (hb hby d6_119) rfl kt) ?_
    show Goes p e below s _ _ _ (T38.setTop (mkF m 120 #[.val (.ref a1), .val (.int dd), .val (.double (FP.l2d xx)), .second, .val (.int sl_3)] [(.double (FP.l2d xx)), (.double (FP.l2d 0)), (.int cc), (.ref sa)]))
    refine Goes.pre (fun t kt => XS.daddS X38.here hx rfl (hb hby d6_120) rfl (nn_w (dadd_w own_b0 hB2)) (v := (FP.l2d (0 + xx))) (dadd_w own_b0 hB2) kt) ?_
    show Goes p e below s _ _ _ (T38.setTop (mkF m 121 #[.val (.ref a1), .val (.int dd), .val (.double (FP.l2d xx)), .second, .val (.int sl_3)] [(.double (FP.l2d (0 + xx))), (.int cc), (.ref sa)]))
    obtain ⟨cl43, Ar43, aS43, aN43, aH43⟩ := In42
    have In43 : OwnD Z h34 sa (8 : Int32) (own_upd FF cc (FP.l2d 0)) := ⟨cl43, Ar43, aS43, aN43, aH43⟩
    have hin43 : ¬ (cc < 0 ∨ cl43.slots.size ≤ (cc).toNatClampNeg) := inb_of aS43 ⟨(own_cntR hcc hn).1, (own_cntR hcc hn).2.1⟩
    obtain ⟨T43, h43, X43, e43, W43, st43⟩ := stD X38 hx hZ e38 Ar43 (j := cc) hin43 (g := (mkF m 121 #[.val (.ref a1), .val (.int dd), .val (.double (FP.l2d xx)), .second, .val (.int sl_3)] [(.double (FP.l2d (0 + xx))), (.int cc), (.ref sa)])) rfl rfl (hb hby d6_121)
    refine Goes.pre st43 ?_
    have Z43 : n0 ≤ h43.size := Nat.le_trans Z34 (Keep.of_wr W43).1
    have N43 := Fr.snoc X43 N34 pf_G_sa
    have K43 := K34.wr W43 (Or.inl (List.mem_of_getElem? (i := 3) rfl))
    have Iw43 : OwnD Z h43 sa (8 : Int32) (own_upd (own_upd FF cc (FP.l2d 0)) cc (FP.l2d (0 + xx))) := OwnD.set Ar43 aS43 aN43 aH43 W43 (own_cntR hcc hn).1 (own_cntR hcc hn).2.1
    show Goes p e below s _ _ _ (T43.setTop (mkF m 122 #[.val (.ref a1), .val (.int dd), .val (.double (FP.l2d xx)), .second, .val (.int sl_3)] []))
    have fc44 : Fld Z h43 a1 "com/example/nosograph/nosograph/ranking/DocumentSums" "table" "[I" (.ref ta) := (fc37.other W43 (Or.inl (Ne.symm pf_NE_sa_a1)))
    have fc45 : Fld Z h43 a1 "com/example/nosograph/nosograph/ranking/DocumentSums" "shift" "I" (.int (28 : Int32)) := ((((((pf_F_a1_com_example_nosograph_nosograph_ranking_DocumentSums_shift.other W12 (Or.inl (Ne.symm pf_NE_ta_a1))).other W18 (Or.inl (Ne.symm pf_NE_da_a1))).other W24 (Or.inl (Ne.symm pf_NE_sa_a1))).other W30 (Or.inl (Ne.symm pf_NE_la_a1))).other W34 (Or.inr (slot_ne (Or.inl (hw _ (List.mem_of_getElem? (i := 23) rfl))) (Or.inl (hw _ (List.mem_of_getElem? (i := 56) rfl))) (by decide) (t := .int) (t' := .int) (by decide) (by decide)))).other W43 (Or.inl (Ne.symm pf_NE_sa_a1)))
    have fc46 : Fld Z h43 a1 "com/example/nosograph/nosograph/ranking/DocumentSums" "documents" "[I" (.ref da) := (((((fc13.other W18 (Or.inl (Ne.symm pf_NE_da_a1))).other W24 (Or.inl (Ne.symm pf_NE_sa_a1))).other W30 (Or.inl (Ne.symm pf_NE_la_a1))).other W34 (Or.inr (slot_ne (Or.inl (hw _ (List.mem_of_getElem? (i := 25) rfl))) (Or.inl (hw _ (List.mem_of_getElem? (i := 56) rfl))) (by decide) (t := (.array .int)) (t' := .int) (by decide) (by decide)))).other W43 (Or.inl (Ne.symm pf_NE_sa_a1)))
    have fc47 : Fld Z h43 a1 "com/example/nosograph/nosograph/ranking/DocumentSums" "sums" "[D" (.ref sa) := (fc35.other W43 (Or.inl (Ne.symm pf_NE_sa_a1)))
    have fc48 : Fld Z h43 a1 "com/example/nosograph/nosograph/ranking/DocumentSums" "slots" "[I" (.ref la) := (((fc25.other W30 (Or.inl (Ne.symm pf_NE_la_a1))).other W34 (Or.inr (slot_ne (Or.inl (hw _ (List.mem_of_getElem? (i := 30) rfl))) (Or.inl (hw _ (List.mem_of_getElem? (i := 56) rfl))) (by decide) (t := (.array .int)) (t' := .int) (by decide) (by decide)))).other W43 (Or.inl (Ne.symm pf_NE_sa_a1)))
    have fc49 : Fld Z h43 a1 "com/example/nosograph/nosograph/ranking/DocumentSums" "documentCount" "I" (.int nn) := ((((((pf_F_a1_com_example_nosograph_nosograph_ranking_DocumentSums_documentCount.other W12 (Or.inl (Ne.symm pf_NE_ta_a1))).other W18 (Or.inl (Ne.symm pf_NE_da_a1))).other W24 (Or.inl (Ne.symm pf_NE_sa_a1))).other W30 (Or.inl (Ne.symm pf_NE_la_a1))).other W34 (Or.inr (slot_ne (Or.inr (hw _ (List.mem_of_getElem? (i := 32) rfl))) (Or.inl (hw _ (List.mem_of_getElem? (i := 56) rfl))) (by decide) (t := .int) (t' := .int) (by decide) (by decide)))).other W43 (Or.inl (Ne.symm pf_NE_sa_a1)))
    have fc50 : Fld Z h43 a1 "com/example/nosograph/nosograph/ranking/DocumentSums" "count" "I" (.int (cc + (1 : Int32))) := (Fw34.other W43 (Or.inl (Ne.symm pf_NE_sa_a1)))
    have fc51 : OwnI Z h43 ta (16 : Int32) (own_upd ff sl_3 cc) := (In40.other W43 (Ne.symm pf_NE_sa_ta))
    have fc52 : OwnI Z h43 da (8 : Int32) (own_upd gg cc dd) := ((((Iw18.other W24 (Ne.symm pf_NE_sa_da)).other W30 (Ne.symm pf_NE_la_da)).other W34 pf_NE_da_a1).other W43 (Ne.symm pf_NE_sa_da))
    have fc53 : OwnI Z h43 la (8 : Int32) (own_upd uu cc sl_3) := ((Iw30.other W34 pf_NE_la_a1).other W43 pf_NE_la_sa)
    refine Goes.ret X43 none (fun _ => rfl) (BodyLoose.notSynchronized Bd) (by decide) (by decide) (fun fs hr => X43.returnOut hx Bd.returns (hb hby d6_122) hr) ?_
    show Q_rmadd Z a1 dd xx ta da sa la ff gg FF uu n1 MM nn cc h0 n0 _ T43.heap _
    rw [e43]
    exact ⟨(own_upd ff sl_3 cc), (own_upd gg cc dd), (own_upd (own_upd FF cc (FP.l2d 0)) cc (FP.l2d (0 + xx))), (own_upd uu cc sl_3), (n1 + 1), (cc + (1 : Int32)), rfl, N43, K43, fc44, fc45, fc46, fc47, fc48, fc49, fc50, fc51, fc52, Iw43, fc53, (own_rep_new hR hn pq3_0 hc24 hcc), (Nat.le_refl _), ((own_cntR hcc hn).2.2.2), (own_u_add (d := dd) hR.1 hU hc24 hcc (own_slotR pq3_0)), (own_g_new hcc)⟩
  · refine Goes.pre (fun t kt => XS.icmpYes X5.here hx rfl (pc0 := 24) (pc' := 106) rfl (hb hby d6_24) rfl (Jvm.Free.XT.ii_ne_t (hc24)) (by decide) (by decide) kt) ?_
    show Goes p e below s _ _ _ (T5.setTop (mkF m 106 #[.val (.ref a1), .val (.int dd), .val (.double (FP.l2d xx)), .second, .val (.int sl_3)] []))
    refine Goes.pre (fun t kt => XS.aloadN X5.here hx rfl (hb hby d6_106) rfl rfl kt) ?_
    show Goes p e below s _ _ _ (T5.setTop (mkF m 107 #[.val (.ref a1), .val (.int dd), .val (.double (FP.l2d xx)), .second, .val (.int sl_3)] [(.ref a1)]))
    obtain ⟨T54, X54, e54, st54⟩ := getF X5 hx hZ hown (host := "") (Or.inl (hw _ (List.mem_of_getElem? (i := 27) rfl))) Via.refl e5 pf_F_a1_com_example_nosograph_nosograph_ranking_DocumentSums_sums (g := (mkF m 107 #[.val (.ref a1), .val (.int dd), .val (.double (FP.l2d xx)), .second, .val (.int sl_3)] [(.ref a1)])) rfl rfl (hb hby d6_107)
    refine Goes.pre st54 ?_
    show Goes p e below s _ _ _ (T54.setTop (mkF m 110 #[.val (.ref a1), .val (.int dd), .val (.double (FP.l2d xx)), .second, .val (.int sl_3)] [(.ref sa)]))
    refine Goes.pre (fun t kt => XS.aloadN X54.here hx rfl (hb hby d6_110) rfl rfl kt) ?_
    show Goes p e below s _ _ _ (T54.setTop (mkF m 111 #[.val (.ref a1), .val (.int dd), .val (.double (FP.l2d xx)), .second, .val (.int sl_3)] [(.ref a1), (.ref sa)]))
    obtain ⟨T55, X55, e55, st55⟩ := getF X54 hx hZ hown (host := "") (Or.inl (hw _ (List.mem_of_getElem? (i := 15) rfl))) Via.refl e54 pf_F_a1_com_example_nosograph_nosograph_ranking_DocumentSums_table (g := (mkF m 111 #[.val (.ref a1), .val (.int dd), .val (.double (FP.l2d xx)), .second, .val (.int sl_3)] [(.ref a1), (.ref sa)])) rfl rfl (hb hby d6_111)
    refine Goes.pre st55 ?_
    show Goes p e below s _ _ _ (T55.setTop (mkF m 114 #[.val (.ref a1), .val (.int dd), .val (.double (FP.l2d xx)), .second, .val (.int sl_3)] [(.ref ta), (.ref sa)]))
    refine Goes.pre (fun t kt => XS.iload X55.here hx rfl (hb hby d6_114) rfl kt) ?_
    show Goes p e below s _ _ _ (T55.setTop (mkF m 116 #[.val (.ref a1), .val (.int dd), .val (.double (FP.l2d xx)), .second, .val (.int sl_3)] [(.int sl_3), (.ref ta), (.ref sa)]))
    obtain ⟨cl56, Ar56, aS56, aN56, aH56⟩ := In6
    have In56 : OwnI Z h0 ta (16 : Int32) ff := ⟨cl56, Ar56, aS56, aN56, aH56⟩
    have hin56 : ¬ (sl_3 < 0 ∨ cl56.slots.size ≤ (sl_3).toNatClampNeg) := inb_of aS56 ⟨(own_slotR pq3_0).1, (own_slotR pq3_0).2⟩
    have hat56 : cl56.slots[(sl_3).toNatClampNeg]? = some (.int (ff sl_3)) := aH56 _ (own_slotR pq3_0).1 (own_slotR pq3_0).2
    refine Goes.pre (X55.iaload hx (j := sl_3) (v := (.int (ff sl_3))) (by rw [e55]; exact Ar56.1) (State.isArrayOf_alike hZ.alike Ar56.2.1) Ar56.2.2 hin56 hat56 (g := (mkF m 116 #[.val (.ref a1), .val (.int dd), .val (.double (FP.l2d xx)), .second, .val (.int sl_3)] [(.int sl_3), (.ref ta), (.ref sa)])) rfl rfl (hb hby d6_116)) ?_
    show Goes p e below s _ _ _ (T55.setTop (mkF m 117 #[.val (.ref a1), .val (.int dd), .val (.double (FP.l2d xx)), .second, .val (.int sl_3)] [(.int (ff sl_3)), (.ref sa)]))
    refine Goes.pre (fun t kt => own_dup2 X55.here hx rfl (hb hby d6_117) rfl rfl rfl kt) ?_
    show Goes p e below s _ _ _ (T55.setTop (mkF m 118 #[.val (.ref a1), .val (.int dd), .val (.double (FP.l2d xx)), .second, .val (.int sl_3)] [(.int (ff sl_3)), (.ref sa), (.int (ff sl_3)), (.ref sa)]))
    obtain ⟨cl57, Ar57, aS57, aN57, aH57⟩ := pf_B_sa
    have In57 : OwnD Z h0 sa (8 : Int32) FF := ⟨cl57, Ar57, aS57, aN57, aH57⟩
    have hin57 : ¬ ((ff sl_3) < 0 ∨ cl57.slots.size ≤ ((ff sl_3)).toNatClampNeg) := inb_of aS57 ⟨(own_place hR.1 (own_slotR pq3_0) hc24).1, (own_place hR.1 (own_slotR pq3_0) hc24).2⟩
    have hat57 : cl57.slots[((ff sl_3)).toNatClampNeg]? = some (.double (FF (ff sl_3))) := aH57 _ (own_place hR.1 (own_slotR pq3_0) hc24).1 (own_place hR.1 (own_slotR pq3_0) hc24).2
    rw [show (FF (ff sl_3)) = (FP.l2d (MM dd)) from (hR.2 _ _ pq3_0).2 hc24] at hat57
    refine Goes.pre (X55.daload hx (j := (ff sl_3)) (v := (.double (FP.l2d (MM dd)))) (by rw [e55]; exact Ar57.1) (State.isArrayOf_alike hZ.alike Ar57.2.1) Ar57.2.2 hin57 hat57 (g := (mkF m 118 #[.val (.ref a1), .val (.int dd), .val (.double (FP.l2d xx)), .second, .val (.int sl_3)] [(.int (ff sl_3)), (.ref sa), (.int (ff sl_3)), (.ref sa)])) rfl rfl (hb hby d6_118)) ?_
    show Goes p e below s _ _ _ (T55.setTop (mkF m 119 #[.val (.ref a1), .val (.int dd), .val (.double (FP.l2d xx)), .second, .val (.int sl_3)] [(.double (FP.l2d (MM dd))), (.int (ff sl_3)), (.ref sa)]))
    refine Goes.pre (fun t kt => XS.dloadN X55.here hx rfl (hb hby d6_119) rfl kt) ?_
    show Goes p e below s _ _ _ (T55.setTop (mkF m 120 #[.val (.ref a1), .val (.int dd), .val (.double (FP.l2d xx)), .second, .val (.int sl_3)] [(.double (FP.l2d xx)), (.double (FP.l2d (MM dd))), (.int (ff sl_3)), (.ref sa)]))
    refine Goes.pre (fun t kt => XS.daddS X55.here hx rfl (hb hby d6_120) rfl (nn_w (dadd_w hB1 hB2)) (v := (FP.l2d (MM dd + xx))) (dadd_w hB1 hB2) kt) ?_
    show Goes p e below s _ _ _ (T55.setTop (mkF m 121 #[.val (.ref a1), .val (.int dd), .val (.double (FP.l2d xx)), .second, .val (.int sl_3)] [(.double (FP.l2d (MM dd + xx))), (.int (ff sl_3)), (.ref sa)]))
    obtain ⟨cl58, Ar58, aS58, aN58, aH58⟩ := In57
    have In58 : OwnD Z h0 sa (8 : Int32) FF := ⟨cl58, Ar58, aS58, aN58, aH58⟩
    have hin58 : ¬ ((ff sl_3) < 0 ∨ cl58.slots.size ≤ ((ff sl_3)).toNatClampNeg) := inb_of aS58 ⟨(own_place hR.1 (own_slotR pq3_0) hc24).1, (own_place hR.1 (own_slotR pq3_0) hc24).2⟩
    obtain ⟨T58, h58, X58, e58, W58, st58⟩ := stD X55 hx hZ e55 Ar58 (j := (ff sl_3)) hin58 (g := (mkF m 121 #[.val (.ref a1), .val (.int dd), .val (.double (FP.l2d xx)), .second, .val (.int sl_3)] [(.double (FP.l2d (MM dd + xx))), (.int (ff sl_3)), (.ref sa)])) rfl rfl (hb hby d6_121)
    refine Goes.pre st58 ?_
    have Z58 : n0 ≤ h58.size := Nat.le_trans Z0 (Keep.of_wr W58).1
    have N58 := Fr.snoc X58 N3 pf_G_sa
    have K58 := K0.wr W58 (Or.inl (List.mem_of_getElem? (i := 3) rfl))
    have Iw58 : OwnD Z h58 sa (8 : Int32) (own_upd FF (ff sl_3) (FP.l2d (MM dd + xx))) := OwnD.set Ar58 aS58 aN58 aH58 W58 (own_place hR.1 (own_slotR pq3_0) hc24).1 (own_place hR.1 (own_slotR pq3_0) hc24).2
    show Goes p e below s _ _ _ (T58.setTop (mkF m 122 #[.val (.ref a1), .val (.int dd), .val (.double (FP.l2d xx)), .second, .val (.int sl_3)] []))
    have fc59 : Fld Z h58 a1 "com/example/nosograph/nosograph/ranking/DocumentSums" "table" "[I" (.ref ta) := (pf_F_a1_com_example_nosograph_nosograph_ranking_DocumentSums_table.other W58 (Or.inl (Ne.symm pf_NE_sa_a1)))
    have fc60 : Fld Z h58 a1 "com/example/nosograph/nosograph/ranking/DocumentSums" "shift" "I" (.int (28 : Int32)) := (pf_F_a1_com_example_nosograph_nosograph_ranking_DocumentSums_shift.other W58 (Or.inl (Ne.symm pf_NE_sa_a1)))
    have fc61 : Fld Z h58 a1 "com/example/nosograph/nosograph/ranking/DocumentSums" "documents" "[I" (.ref da) := (pf_F_a1_com_example_nosograph_nosograph_ranking_DocumentSums_documents.other W58 (Or.inl (Ne.symm pf_NE_sa_a1)))
    have fc62 : Fld Z h58 a1 "com/example/nosograph/nosograph/ranking/DocumentSums" "sums" "[D" (.ref sa) := (pf_F_a1_com_example_nosograph_nosograph_ranking_DocumentSums_sums.other W58 (Or.inl (Ne.symm pf_NE_sa_a1)))
    have fc63 : Fld Z h58 a1 "com/example/nosograph/nosograph/ranking/DocumentSums" "slots" "[I" (.ref la) := (pf_F_a1_com_example_nosograph_nosograph_ranking_DocumentSums_slots.other W58 (Or.inl (Ne.symm pf_NE_sa_a1)))
    have fc64 : Fld Z h58 a1 "com/example/nosograph/nosograph/ranking/DocumentSums" "documentCount" "I" (.int nn) := (pf_F_a1_com_example_nosograph_nosograph_ranking_DocumentSums_documentCount.other W58 (Or.inl (Ne.symm pf_NE_sa_a1)))
    have fc65 : Fld Z h58 a1 "com/example/nosograph/nosograph/ranking/DocumentSums" "count" "I" (.int cc) := (pf_F_a1_com_example_nosograph_nosograph_ranking_DocumentSums_count.other W58 (Or.inl (Ne.symm pf_NE_sa_a1)))
    have fc66 : OwnI Z h58 ta (16 : Int32) ff := (In56.other W58 (Ne.symm pf_NE_sa_ta))
    have fc67 : OwnI Z h58 da (8 : Int32) gg := (pf_I_da.other W58 (Ne.symm pf_NE_sa_da))
    have fc68 : OwnI Z h58 la (8 : Int32) uu := (pf_I_la.other W58 pf_NE_la_sa)
    refine Goes.ret X58 none (fun _ => rfl) (BodyLoose.notSynchronized Bd) (by decide) (by decide) (fun fs hr => X58.returnOut hx Bd.returns (hb hby d6_122) hr) ?_
    show Q_rmadd Z a1 dd xx ta da sa la ff gg FF uu n1 MM nn cc h0 n0 _ T58.heap _
    rw [e58]
    exact ⟨ff, gg, (own_upd FF (ff sl_3) (FP.l2d (MM dd + xx))), uu, n1, cc, rfl, N58, K58, fc59, fc60, fc61, fc62, fc63, fc64, fc65, fc66, fc67, Iw58, fc68, (own_rep_more hR pq3_0 hc24), (Nat.le_succ _), (hcc), (hU), (own_g_old hR.1 pq3_0 hc24)⟩
theorem d10_0 : decode prog_56_method_6_code 0 = .ok (.iconst 0, 1) := by decide +kernel
theorem d10_1 : decode prog_56_method_6_code 1 = .ok (.istore_n 1, 1) := by decide +kernel
theorem d10_2 : decode prog_56_method_6_code 2 = .ok (.iload_n 1, 1) := by decide +kernel
theorem d10_3 : decode prog_56_method_6_code 3 = .ok (.aload_n 0, 1) := by decide +kernel
theorem d10_4 : decode prog_56_method_6_code 4 = .ok (.getfield 51, 3) := by decide +kernel
theorem d10_7 : decode prog_56_method_6_code 7 = .ok (.if_icmp .ge 21, 3) := by decide +kernel
theorem d10_10 : decode prog_56_method_6_code 10 = .ok (.aload_n 0, 1) := by decide +kernel
theorem d10_11 : decode prog_56_method_6_code 11 = .ok (.getfield 9, 3) := by decide +kernel
theorem d10_14 : decode prog_56_method_6_code 14 = .ok (.aload_n 0, 1) := by decide +kernel
theorem d10_15 : decode prog_56_method_6_code 15 = .ok (.getfield 30, 3) := by decide +kernel
theorem d10_18 : decode prog_56_method_6_code 18 = .ok (.iload_n 1, 1) := by decide +kernel
theorem d10_19 : decode prog_56_method_6_code 19 = .ok (.iaload, 1) := by decide +kernel
theorem d10_20 : decode prog_56_method_6_code 20 = .ok (.iconst (-1), 1) := by decide +kernel
theorem d10_21 : decode prog_56_method_6_code 21 = .ok (.iastore, 1) := by decide +kernel
theorem d10_22 : decode prog_56_method_6_code 22 = .ok (.iinc 1 1, 3) := by decide +kernel
theorem d10_25 : decode prog_56_method_6_code 25 = .ok (.goto (-23), 3) := by decide +kernel
theorem d10_28 : decode prog_56_method_6_code 28 = .ok (.aload_n 0, 1) := by decide +kernel
theorem d10_29 : decode prog_56_method_6_code 29 = .ok (.iconst 0, 1) := by decide +kernel
theorem d10_30 : decode prog_56_method_6_code 30 = .ok (.putfield 51, 3) := by decide +kernel
theorem d10_33 : decode prog_56_method_6_code 33 = .ok (.return_, 1) := by decide +kernel
def Q_rmclear (Z : State) (a1 : Addr) (ta : Addr) (da : Addr) (sa : Addr) (la : Addr) (ff : (Int32 → Int32)) (gg : (Int32 → Int32)) (uu : (Int32 → Int32)) (n1 : Nat) (nn : Int32) (cc : Int32) (h0 : Heap) (n0 : Nat) (v : Option Value) (h : Heap) (L : List Loc) : Prop := v = none ∧ Fr n0 L ∧ Keep h0 h [ta, a1] ∧ (Fld Z h a1 "com/example/nosograph/nosograph/ranking/DocumentSums" "table" "[I" (.ref ta)) ∧ (Fld Z h a1 "com/example/nosograph/nosograph/ranking/DocumentSums" "slots" "[I" (.ref la)) ∧ (Fld Z h a1 "com/example/nosograph/nosograph/ranking/DocumentSums" "count" "I" (.int (0 : Int32))) ∧ (Fld Z h a1 "com/example/nosograph/nosograph/ranking/DocumentSums" "shift" "I" (.int (28 : Int32))) ∧ (Fld Z h a1 "com/example/nosograph/nosograph/ranking/DocumentSums" "documents" "[I" (.ref da)) ∧ (Fld Z h a1 "com/example/nosograph/nosograph/ranking/DocumentSums" "sums" "[D" (.ref sa)) ∧ (Fld Z h a1 "com/example/nosograph/nosograph/ranking/DocumentSums" "documentCount" "I" (.int nn)) ∧ (OwnI Z h ta (16 : Int32) (fun _ => -1))
theorem ef_rmclear (m : MethodId) (a1 : Addr) : entryFrame m #[(.ref a1)] 2 = mkF m 0 #[.val (.ref a1), .unset] [] := by first | (simp [entryFrame, mkF, argsToLocals, Value.category]; done) | rfl
set_option maxRecDepth 65536 in
set_option maxHeartbeats 40000000 in
theorem rmclear (l : Launch) (Z : State) (a0 : Array Value) (hw : ∀ d ∈ tables_1, d.before a0 Z = true) (ws : List Jvm.Cond) (a1 : Addr) (ta : Addr) (da : Addr) (sa : Addr) (la : Addr) (ff : (Int32 → Int32)) (gg : (Int32 → Int32)) (uu : (Int32 → Int32)) (n1 : Nat) (nn : Int32) (cc : Int32) (h0 : Heap) (n0 : Nat) (Z0 : n0 ≤ h0.size) (pf_E_a1 : Exa Z h0 a1 "com/example/nosograph/nosograph/ranking/DocumentSums") (pf_G_a1 : n0 ≤ a1) (pf_G_ta : n0 ≤ ta) (pf_NE_ta_a1 : ta ≠ a1) (pf_NE_la_ta : la ≠ ta) (pf_F_a1_com_example_nosograph_nosograph_ranking_DocumentSums_table : Fld Z h0 a1 "com/example/nosograph/nosograph/ranking/DocumentSums" "table" "[I" (.ref ta)) (pf_F_a1_com_example_nosograph_nosograph_ranking_DocumentSums_slots : Fld Z h0 a1 "com/example/nosograph/nosograph/ranking/DocumentSums" "slots" "[I" (.ref la)) (pf_F_a1_com_example_nosograph_nosograph_ranking_DocumentSums_count : Fld Z h0 a1 "com/example/nosograph/nosograph/ranking/DocumentSums" "count" "I" (.int cc)) (pf_F_a1_com_example_nosograph_nosograph_ranking_DocumentSums_shift : Fld Z h0 a1 "com/example/nosograph/nosograph/ranking/DocumentSums" "shift" "I" (.int (28 : Int32))) (pf_F_a1_com_example_nosograph_nosograph_ranking_DocumentSums_documents : Fld Z h0 a1 "com/example/nosograph/nosograph/ranking/DocumentSums" "documents" "[I" (.ref da)) (pf_F_a1_com_example_nosograph_nosograph_ranking_DocumentSums_sums : Fld Z h0 a1 "com/example/nosograph/nosograph/ranking/DocumentSums" "sums" "[D" (.ref sa)) (pf_F_a1_com_example_nosograph_nosograph_ranking_DocumentSums_documentCount : Fld Z h0 a1 "com/example/nosograph/nosograph/ranking/DocumentSums" "documentCount" "I" (.int nn)) (pf_I_ta : OwnI Z h0 ta (16 : Int32) ff) (pf_I_la : OwnI Z h0 la (8 : Int32) uu) (hI : own_inv ff gg n1) (hU : own_u ff uu n1) (hcc : cc.toInt = n1) :
    MetFree l (⟨"com/example/nosograph/nosograph/ranking/DocumentSums", "clear", "()V"⟩ : MethodName) (head1 (Jvm.Cond.code (⟨"com/example/nosograph/nosograph/ranking/DocumentSums", "clear", "()V"⟩ : MethodName) prog_56_method_6_code 2 none :: ws) ({ frames := 0, cells := 0, slots := 0, locals := 0 } : Room)) (fun a U => a = #[(.ref a1)] ∧ Z.Warmed39 U.vm ∧ U.heap = h0) (fun _ _ _ _ _ => True) (fun _ U o U' => ∃ v L, o = .returned v ∧ Q_rmclear Z a1 ta da sa la ff gg uu n1 nn cc h0 n0 v U'.heap L ∧ FrameEnd U o U' L ({ frames := 0, cells := 0, slots := 0, locals := 0 } : Room).cells ({ frames := 0, cells := 0, slots := 0, locals := 0 } : Room).slots) := by
  refine MetFree.of_bodySF (plainFor_of_name pn_4) hisR ?_
  intro p e s m args below meth c s₁ Bd hml0 hP hK
  obtain ⟨rfl, hZ, hh⟩ := hP
  have hx := Bd.exec
  have hby := Bd.bytes
  have hml : c.maxLocals = 2 := hml0
  have hown : s.vm.findClass "com/example/nosograph/nosograph/ranking/DocumentSums" = some m.cls := findClass_of_methodNamed Bd.named
  have hnm := (name_of_methodNamed Bd.named Bd.method).1
  have X0 : Stand p l e ({ frames := 0, cells := 0, slots := 0, locals := 0 } : Room) s m #[(.ref a1)] below meth c s₁ [] 0 0 := Stand.of_body Bd
  have e0 : s₁.heap = h0 := by rw [← hh, Bd.state]; rfl
  have N0 := Fr.nil n0
  have K0 := Keep.refl h0 [ta, a1]
  show Goes p e below s (Q_rmclear Z a1 ta da sa la ff gg uu n1 nn cc h0 n0) ({ frames := 0, cells := 0, slots := 0, locals := 0 } : Room).cells ({ frames := 0, cells := 0, slots := 0, locals := 0 } : Room).slots (s₁.setTop (entryFrame m #[(.ref a1)] 2))
  refine Goes.pre (fun t kt => castTop (ef_rmclear m a1) kt) ?_
  show Goes p e below s _ _ _ (s₁.setTop (mkF m 0 #[.val (.ref a1), .unset] []))
  refine Goes.pre (fun t kt => XS.iconst X0.here hx rfl (hb hby d10_0) kt) ?_
  show Goes p e below s _ _ _ (s₁.setTop (mkF m 1 #[.val (.ref a1), .unset] [(.int (0 : Int32))]))
  refine Goes.pre (fun t kt => XS.istoreN X0.here hx rfl (hb hby d10_1) rfl (l' := #[.val (.ref a1), .val (.int (0 : Int32))]) rfl kt) ?_
  show Goes p e below s _ _ _ (s₁.setTop (mkF m 2 #[.val (.ref a1), .val (.int (0 : Int32))] []))
  refine Goes.pre (fun t kt => XS.iloadN X0.here hx rfl (hb hby d10_2) rfl kt) ?_
  show Goes p e below s _ _ _ (s₁.setTop (mkF m 3 #[.val (.ref a1), .val (.int (0 : Int32))] [(.int (0 : Int32))]))
  refine Goes.pre (fun t kt => XS.aloadN X0.here hx rfl (hb hby d10_3) rfl rfl kt) ?_
  show Goes p e below s _ _ _ (s₁.setTop (mkF m 4 #[.val (.ref a1), .val (.int (0 : Int32))] [(.ref a1), (.int (0 : Int32))]))
  obtain ⟨T1, X1, e1, st1⟩ := getF X0 hx hZ hown (host := "") (Or.inl (hw _ (List.mem_of_getElem? (i := 55) rfl))) Via.refl e0 pf_F_a1_com_example_nosograph_nosograph_ranking_DocumentSums_count (g := (mkF m 4 #[.val (.ref a1), .val (.int (0 : Int32))] [(.ref a1), (.int (0 : Int32))])) rfl rfl (hb hby d10_4)
  refine Goes.pre st1 ?_
  show Goes p e below s _ _ _ (T1.setTop (mkF m 7 #[.val (.ref a1), .val (.int (0 : Int32))] [(.int cc), (.int (0 : Int32))]))
  by_cases hL0 : (0 : Int32) < cc
  · refine Goes.pre (fun t kt => XS.icmpNo X1.here hx rfl (hb hby d10_7) rfl (Jvm.Free.XT.ii_ge_f (hL0)) kt) ?_
    show Goes p e below s _ _ _ (T1.setTop (mkF m 10 #[.val (.ref a1), .val (.int (0 : Int32))] []))
    refine Goes.pre (fun t kt => XS.aloadN X1.here hx rfl (hb hby d10_10) rfl rfl kt) ?_
    show Goes p e below s _ _ _ (T1.setTop (mkF m 11 #[.val (.ref a1), .val (.int (0 : Int32))] [(.ref a1)]))
    obtain ⟨T2, X2, e2, st2⟩ := getF X1 hx hZ hown (host := "") (Or.inl (hw _ (List.mem_of_getElem? (i := 15) rfl))) Via.refl e1 pf_F_a1_com_example_nosograph_nosograph_ranking_DocumentSums_table (g := (mkF m 11 #[.val (.ref a1), .val (.int (0 : Int32))] [(.ref a1)])) rfl rfl (hb hby d10_11)
    refine Goes.pre st2 ?_
    show Goes p e below s _ _ _ (T2.setTop (mkF m 14 #[.val (.ref a1), .val (.int (0 : Int32))] [(.ref ta)]))
    refine Goes.pre (fun t kt => XS.aloadN X2.here hx rfl (hb hby d10_14) rfl rfl kt) ?_
    show Goes p e below s _ _ _ (T2.setTop (mkF m 15 #[.val (.ref a1), .val (.int (0 : Int32))] [(.ref a1), (.ref ta)]))
    obtain ⟨T3, X3, e3, st3⟩ := getF X2 hx hZ hown (host := "") (Or.inl (hw _ (List.mem_of_getElem? (i := 29) rfl))) Via.refl e2 pf_F_a1_com_example_nosograph_nosograph_ranking_DocumentSums_slots (g := (mkF m 15 #[.val (.ref a1), .val (.int (0 : Int32))] [(.ref a1), (.ref ta)])) rfl rfl (hb hby d10_15)
    refine Goes.pre st3 ?_
    show Goes p e below s _ _ _ (T3.setTop (mkF m 18 #[.val (.ref a1), .val (.int (0 : Int32))] [(.ref la), (.ref ta)]))
    refine Goes.pre (fun t kt => XS.iloadN X3.here hx rfl (hb hby d10_18) rfl kt) ?_
    show Goes p e below s _ _ _ (T3.setTop (mkF m 19 #[.val (.ref a1), .val (.int (0 : Int32))] [(.int (0 : Int32)), (.ref la), (.ref ta)]))
    obtain ⟨cl4, Ar4, aS4, aN4, aH4⟩ := pf_I_la
    have In4 : OwnI Z h0 la (8 : Int32) uu := ⟨cl4, Ar4, aS4, aN4, aH4⟩
    have hin4 : ¬ ((0 : Int32) < 0 ∨ cl4.slots.size ≤ ((0 : Int32)).toNatClampNeg) := inb_of aS4 ⟨(by decide), (by decide)⟩
    have hat4 : cl4.slots[((0 : Int32)).toNatClampNeg]? = some (.int (uu (0 : Int32))) := aH4 _ (by decide) (by decide)
    refine Goes.pre (X3.iaload hx (j := (0 : Int32)) (v := (.int (uu (0 : Int32)))) (by rw [e3]; exact Ar4.1) (State.isArrayOf_alike hZ.alike Ar4.2.1) Ar4.2.2 hin4 hat4 (g := (mkF m 19 #[.val (.ref a1), .val (.int (0 : Int32))] [(.int (0 : Int32)), (.ref la), (.ref ta)])) rfl rfl (hb hby d10_19)) ?_
    show Goes p e below s _ _ _ (T3.setTop (mkF m 20 #[.val (.ref a1), .val (.int (0 : Int32))] [(.int (uu (0 : Int32))), (.ref ta)]))
    refine Goes.pre (fun t kt => XS.iconst X3.here hx rfl (hb hby d10_20) kt) ?_
    show Goes p e below s _ _ _ (T3.setTop (mkF m 21 #[.val (.ref a1), .val (.int (0 : Int32))] [(.int (-1 : Int32)), (.int (uu (0 : Int32))), (.ref ta)]))
    obtain ⟨cl5, Ar5, aS5, aN5, aH5⟩ := pf_I_ta
    have In5 : OwnI Z h0 ta (16 : Int32) ff := ⟨cl5, Ar5, aS5, aN5, aH5⟩
    have hin5 : ¬ ((uu (0 : Int32)) < 0 ∨ cl5.slots.size ≤ ((uu (0 : Int32))).toNatClampNeg) := inb_of aS5 ⟨(own_uR hU hcc (j := (0 : Int32)) (by decide) hL0).2.1, (own_uR hU hcc (j := (0 : Int32)) (by decide) hL0).2.2⟩
    obtain ⟨T5, h5, X5, e5, W5, st5⟩ := stI X3 hx hZ e3 Ar5 (j := (uu (0 : Int32))) hin5 (g := (mkF m 21 #[.val (.ref a1), .val (.int (0 : Int32))] [(.int (-1 : Int32)), (.int (uu (0 : Int32))), (.ref ta)])) rfl rfl (hb hby d10_21)
    refine Goes.pre st5 ?_
    have Z5 : n0 ≤ h5.size := Nat.le_trans Z0 (Keep.of_wr W5).1
    have N5 := Fr.snoc X5 N0 pf_G_ta
    have K5 := K0.wr W5 (Or.inl (List.mem_of_getElem? (i := 0) rfl))
    have Iw5 : OwnI Z h5 ta (16 : Int32) (own_upd ff (uu (0 : Int32)) (-1 : Int32)) := OwnI.set Ar5 aS5 aN5 aH5 W5 (own_uR hU hcc (j := (0 : Int32)) (by decide) hL0).2.1 (own_uR hU hcc (j := (0 : Int32)) (by decide) hL0).2.2
    show Goes p e below s _ _ _ (T5.setTop (mkF m 22 #[.val (.ref a1), .val (.int (0 : Int32))] []))
    refine Goes.pre (fun t kt => XS.iinc X5.here hx rfl (hb hby d10_22) rfl (l' := #[.val (.ref a1), .val (.int (1 : Int32))]) rfl kt) ?_
    show Goes p e below s _ _ _ (T5.setTop (mkF m 25 #[.val (.ref a1), .val (.int (1 : Int32))] []))
    refine Goes.pre (fun t kt => XS.goto X5.here hx rfl (pc0 := 25) (pc' := 2) rfl (hb hby d10_25) (by decide) (by decide) kt) ?_
    show Goes p e below s _ _ _ (T5.setTop (mkF m 2 #[.val (.ref a1), .val (.int (1 : Int32))] []))
    refine Goes.pre (fun t kt => XS.iloadN X5.here hx rfl (hb hby d10_2) rfl kt) ?_
    show Goes p e below s _ _ _ (T5.setTop (mkF m 3 #[.val (.ref a1), .val (.int (1 : Int32))] [(.int (1 : Int32))]))
    refine Goes.pre (fun t kt => XS.aloadN X5.here hx rfl (hb hby d10_3) rfl rfl kt) ?_
    show Goes p e below s _ _ _ (T5.setTop (mkF m 4 #[.val (.ref a1), .val (.int (1 : Int32))] [(.ref a1), (.int (1 : Int32))]))
    have fc6 : Fld Z h5 a1 "com/example/nosograph/nosograph/ranking/DocumentSums" "count" "I" (.int cc) := (pf_F_a1_com_example_nosograph_nosograph_ranking_DocumentSums_count.other W5 (Or.inl (Ne.symm pf_NE_ta_a1)))
    obtain ⟨T7, X7, e7, st7⟩ := getF X5 hx hZ hown (host := "") (Or.inl (hw _ (List.mem_of_getElem? (i := 55) rfl))) Via.refl e5 fc6 (g := (mkF m 4 #[.val (.ref a1), .val (.int (1 : Int32))] [(.ref a1), (.int (1 : Int32))])) rfl rfl (hb hby d10_4)
    refine Goes.pre st7 ?_
    show Goes p e below s _ _ _ (T7.setTop (mkF m 7 #[.val (.ref a1), .val (.int (1 : Int32))] [(.int cc), (.int (1 : Int32))]))
    by_cases hL1 : (1 : Int32) < cc
    · refine Goes.pre (fun t kt => XS.icmpNo X7.here hx rfl (hb hby d10_7) rfl (Jvm.Free.XT.ii_ge_f (hL1)) kt) ?_
      show Goes p e below s _ _ _ (T7.setTop (mkF m 10 #[.val (.ref a1), .val (.int (1 : Int32))] []))
      refine Goes.pre (fun t kt => XS.aloadN X7.here hx rfl (hb hby d10_10) rfl rfl kt) ?_
      show Goes p e below s _ _ _ (T7.setTop (mkF m 11 #[.val (.ref a1), .val (.int (1 : Int32))] [(.ref a1)]))
      have fc8 : Fld Z h5 a1 "com/example/nosograph/nosograph/ranking/DocumentSums" "table" "[I" (.ref ta) := (pf_F_a1_com_example_nosograph_nosograph_ranking_DocumentSums_table.other W5 (Or.inl (Ne.symm pf_NE_ta_a1)))
      obtain ⟨T9, X9, e9, st9⟩ := getF X7 hx hZ hown (host := "") (Or.inl (hw _ (List.mem_of_getElem? (i := 15) rfl))) Via.refl e7 fc8 (g := (mkF m 11 #[.val (.ref a1), .val (.int (1 : Int32))] [(.ref a1)])) rfl rfl (hb hby d10_11)
      refine Goes.pre st9 ?_
      show Goes p e below s _ _ _ (T9.setTop (mkF m 14 #[.val (.ref a1), .val (.int (1 : Int32))] [(.ref ta)]))
      refine Goes.pre (fun t kt => XS.aloadN X9.here hx rfl (hb hby d10_14) rfl rfl kt) ?_
      show Goes p e below s _ _ _ (T9.setTop (mkF m 15 #[.val (.ref a1), .val (.int (1 : Int32))] [(.ref a1), (.ref ta)]))
      have fc10 : Fld Z h5 a1 "com/example/nosograph/nosograph/ranking/DocumentSums" "slots" "[I" (.ref la) := (pf_F_a1_com_example_nosograph_nosograph_ranking_DocumentSums_slots.other W5 (Or.inl (Ne.symm pf_NE_ta_a1)))
      obtain ⟨T11, X11, e11, st11⟩ := getF X9 hx hZ hown (host := "") (Or.inl (hw _ (List.mem_of_getElem? (i := 29) rfl))) Via.refl e9 fc10 (g := (mkF m 15 #[.val (.ref a1), .val (.int (1 : Int32))] [(.ref a1), (.ref ta)])) rfl rfl (hb hby d10_15)
      refine Goes.pre st11 ?_
      show Goes p e below s _ _ _ (T11.setTop (mkF m 18 #[.val (.ref a1), .val (.int (1 : Int32))] [(.ref la), (.ref ta)]))
      refine Goes.pre (fun t kt => XS.iloadN X11.here hx rfl (hb hby d10_18) rfl kt) ?_
      show Goes p e below s _ _ _ (T11.setTop (mkF m 19 #[.val (.ref a1), .val (.int (1 : Int32))] [(.int (1 : Int32)), (.ref la), (.ref ta)]))
      have fc12 : OwnI Z h5 la (8 : Int32) uu := (In4.other W5 pf_NE_la_ta)
      obtain ⟨cl13, Ar13, aS13, aN13, aH13⟩ := fc12
      have In13 : OwnI Z h5 la (8 : Int32) uu := ⟨cl13, Ar13, aS13, aN13, aH13⟩
      have hin13 : ¬ ((1 : Int32) < 0 ∨ cl13.slots.size ≤ ((1 : Int32)).toNatClampNeg) := inb_of aS13 ⟨(by decide), (by decide)⟩
      have hat13 : cl13.slots[((1 : Int32)).toNatClampNeg]? = some (.int (uu (1 : Int32))) := aH13 _ (by decide) (by decide)
      refine Goes.pre (X11.iaload hx (j := (1 : Int32)) (v := (.int (uu (1 : Int32)))) (by rw [e11]; exact Ar13.1) (State.isArrayOf_alike hZ.alike Ar13.2.1) Ar13.2.2 hin13 hat13 (g := (mkF m 19 #[.val (.ref a1), .val (.int (1 : Int32))] [(.int (1 : Int32)), (.ref la), (.ref ta)])) rfl rfl (hb hby d10_19)) ?_
      show Goes p e below s _ _ _ (T11.setTop (mkF m 20 #[.val (.ref a1), .val (.int (1 : Int32))] [(.int (uu (1 : Int32))), (.ref ta)]))
      refine Goes.pre (fun t kt => XS.iconst X11.here hx rfl (hb hby d10_20) kt) ?_
      show Goes p e below s _ _ _ (T11.setTop (mkF m 21 #[.val (.ref a1), .val (.int (1 : Int32))] [(.int (-1 : Int32)), (.int (uu (1 : Int32))), (.ref ta)]))
      obtain ⟨cl14, Ar14, aS14, aN14, aH14⟩ := Iw5
      have In14 : OwnI Z h5 ta (16 : Int32) (own_upd ff (uu (0 : Int32)) (-1 : Int32)) := ⟨cl14, Ar14, aS14, aN14, aH14⟩
      have hin14 : ¬ ((uu (1 : Int32)) < 0 ∨ cl14.slots.size ≤ ((uu (1 : Int32))).toNatClampNeg) := inb_of aS14 ⟨(own_uR hU hcc (j := (1 : Int32)) (by decide) hL1).2.1, (own_uR hU hcc (j := (1 : Int32)) (by decide) hL1).2.2⟩
      obtain ⟨T14, h14, X14, e14, W14, st14⟩ := stI X11 hx hZ e11 Ar14 (j := (uu (1 : Int32))) hin14 (g := (mkF m 21 #[.val (.ref a1), .val (.int (1 : Int32))] [(.int (-1 : Int32)), (.int (uu (1 : Int32))), (.ref ta)])) rfl rfl (hb hby d10_21)
      refine Goes.pre st14 ?_
      have Z14 : n0 ≤ h14.size := Nat.le_trans Z5 (Keep.of_wr W14).1
      have N14 := Fr.snoc X14 N5 pf_G_ta
      have K14 := K5.wr W14 (Or.inl (List.mem_of_getElem? (i := 0) rfl))
      have Iw14 : OwnI Z h14 ta (16 : Int32) (own_upd (own_upd ff (uu (0 : Int32)) (-1 : Int32)) (uu (1 : Int32)) (-1 : Int32)) := OwnI.set Ar14 aS14 aN14 aH14 W14 (own_uR hU hcc (j := (1 : Int32)) (by decide) hL1).2.1 (own_uR hU hcc (j := (1 : Int32)) (by decide) hL1).2.2
      show Goes p e below s _ _ _ (T14.setTop (mkF m 22 #[.val (.ref a1), .val (.int (1 : Int32))] []))
      refine Goes.pre (fun t kt => XS.iinc X14.here hx rfl (hb hby d10_22) rfl (l' := #[.val (.ref a1), .val (.int (2 : Int32))]) rfl kt) ?_
      show Goes p e below s _ _ _ (T14.setTop (mkF m 25 #[.val (.ref a1), .val (.int (2 : Int32))] []))
      refine Goes.pre (fun t kt => XS.goto X14.here hx rfl (pc0 := 25) (pc' := 2) rfl (hb hby d10_25) (by decide) (by decide) kt) ?_
      show Goes p e below s _ _ _ (T14.setTop (mkF m 2 #[.val (.ref a1), .val (.int (2 : Int32))] []))
      refine Goes.pre (fun t kt => XS.iloadN X14.here hx rfl (hb hby d10_2) rfl kt) ?_
      show Goes p e below s _ _ _ (T14.setTop (mkF m 3 #[.val (.ref a1), .val (.int (2 : Int32))] [(.int (2 : Int32))]))
      refine Goes.pre (fun t kt => XS.aloadN X14.here hx rfl (hb hby d10_3) rfl rfl kt) ?_
      show Goes p e below s _ _ _ (T14.setTop (mkF m 4 #[.val (.ref a1), .val (.int (2 : Int32))] [(.ref a1), (.int (2 : Int32))]))
      have fc15 : Fld Z h14 a1 "com/example/nosograph/nosograph/ranking/DocumentSums" "count" "I" (.int cc) := (fc6.other W14 (Or.inl (Ne.symm pf_NE_ta_a1)))
      obtain ⟨T16, X16, e16, st16⟩ := getF X14 hx hZ hown (host := "") (Or.inl (hw _ (List.mem_of_getElem? (i := 55) rfl))) Via.refl e14 fc15 (g := (mkF m 4 #[.val (.ref a1), .val (.int (2 : Int32))] [(.ref a1), (.int (2 : Int32))])) rfl rfl (hb hby d10_4)
      refine Goes.pre st16 ?_
      show Goes p e below s _ _ _ (T16.setTop (mkF m 7 #[.val (.ref a1), .val (.int (2 : Int32))] [(.int cc), (.int (2 : Int32))]))
      by_cases hL2 : (2 : Int32) < cc
      · refine Goes.pre (fun t kt => XS.icmpNo X16.here hx rfl (hb hby d10_7) rfl (Jvm.Free.XT.ii_ge_f (hL2)) kt) ?_
        show Goes p e below s _ _ _ (T16.setTop (mkF m 10 #[.val (.ref a1), .val (.int (2 : Int32))] []))
        refine Goes.pre (fun t kt => XS.aloadN X16.here hx rfl (hb hby d10_10) rfl rfl kt) ?_
        show Goes p e below s _ _ _ (T16.setTop (mkF m 11 #[.val (.ref a1), .val (.int (2 : Int32))] [(.ref a1)]))
        have fc17 : Fld Z h14 a1 "com/example/nosograph/nosograph/ranking/DocumentSums" "table" "[I" (.ref ta) := (fc8.other W14 (Or.inl (Ne.symm pf_NE_ta_a1)))
        obtain ⟨T18, X18, e18, st18⟩ := getF X16 hx hZ hown (host := "") (Or.inl (hw _ (List.mem_of_getElem? (i := 15) rfl))) Via.refl e16 fc17 (g := (mkF m 11 #[.val (.ref a1), .val (.int (2 : Int32))] [(.ref a1)])) rfl rfl (hb hby d10_11)
        refine Goes.pre st18 ?_
        show Goes p e below s _ _ _ (T18.setTop (mkF m 14 #[.val (.ref a1), .val (.int (2 : Int32))] [(.ref ta)]))
        refine Goes.pre (fun t kt => XS.aloadN X18.here hx rfl (hb hby d10_14) rfl rfl kt) ?_
        show Goes p e below s _ _ _ (T18.setTop (mkF m 15 #[.val (.ref a1), .val (.int (2 : Int32))] [(.ref a1), (.ref ta)]))
        have fc19 : Fld Z h14 a1 "com/example/nosograph/nosograph/ranking/DocumentSums" "slots" "[I" (.ref la) := (fc10.other W14 (Or.inl (Ne.symm pf_NE_ta_a1)))
        obtain ⟨T20, X20, e20, st20⟩ := getF X18 hx hZ hown (host := "") (Or.inl (hw _ (List.mem_of_getElem? (i := 29) rfl))) Via.refl e18 fc19 (g := (mkF m 15 #[.val (.ref a1), .val (.int (2 : Int32))] [(.ref a1), (.ref ta)])) rfl rfl (hb hby d10_15)
        refine Goes.pre st20 ?_
        show Goes p e below s _ _ _ (T20.setTop (mkF m 18 #[.val (.ref a1), .val (.int (2 : Int32))] [(.ref la), (.ref ta)]))
        refine Goes.pre (fun t kt => XS.iloadN X20.here hx rfl (hb hby d10_18) rfl kt) ?_
        show Goes p e below s _ _ _ (T20.setTop (mkF m 19 #[.val (.ref a1), .val (.int (2 : Int32))] [(.int (2 : Int32)), (.ref la), (.ref ta)]))
        have fc21 : OwnI Z h14 la (8 : Int32) uu := (In13.other W14 pf_NE_la_ta)
        obtain ⟨cl22, Ar22, aS22, aN22, aH22⟩ := fc21
        have In22 : OwnI Z h14 la (8 : Int32) uu := ⟨cl22, Ar22, aS22, aN22, aH22⟩
        have hin22 : ¬ ((2 : Int32) < 0 ∨ cl22.slots.size ≤ ((2 : Int32)).toNatClampNeg) := inb_of aS22 ⟨(by decide), (by decide)⟩
        have hat22 : cl22.slots[((2 : Int32)).toNatClampNeg]? = some (.int (uu (2 : Int32))) := aH22 _ (by decide) (by decide)
        refine Goes.pre (X20.iaload hx (j := (2 : Int32)) (v := (.int (uu (2 : Int32)))) (by rw [e20]; exact Ar22.1) (State.isArrayOf_alike hZ.alike Ar22.2.1) Ar22.2.2 hin22 hat22 (g := (mkF m 19 #[.val (.ref a1), .val (.int (2 : Int32))] [(.int (2 : Int32)), (.ref la), (.ref ta)])) rfl rfl (hb hby d10_19)) ?_
        show Goes p e below s _ _ _ (T20.setTop (mkF m 20 #[.val (.ref a1), .val (.int (2 : Int32))] [(.int (uu (2 : Int32))), (.ref ta)]))
        refine Goes.pre (fun t kt => XS.iconst X20.here hx rfl (hb hby d10_20) kt) ?_
        show Goes p e below s _ _ _ (T20.setTop (mkF m 21 #[.val (.ref a1), .val (.int (2 : Int32))] [(.int (-1 : Int32)), (.int (uu (2 : Int32))), (.ref ta)]))
        obtain ⟨cl23, Ar23, aS23, aN23, aH23⟩ := Iw14
        have In23 : OwnI Z h14 ta (16 : Int32) (own_upd (own_upd ff (uu (0 : Int32)) (-1 : Int32)) (uu (1 : Int32)) (-1 : Int32)) := ⟨cl23, Ar23, aS23, aN23, aH23⟩
        have hin23 : ¬ ((uu (2 : Int32)) < 0 ∨ cl23.slots.size ≤ ((uu (2 : Int32))).toNatClampNeg) := inb_of aS23 ⟨(own_uR hU hcc (j := (2 : Int32)) (by decide) hL2).2.1, (own_uR hU hcc (j := (2 : Int32)) (by decide) hL2).2.2⟩
        obtain ⟨T23, h23, X23, e23, W23, st23⟩ := stI X20 hx hZ e20 Ar23 (j := (uu (2 : Int32))) hin23 (g := (mkF m 21 #[.val (.ref a1), .val (.int (2 : Int32))] [(.int (-1 : Int32)), (.int (uu (2 : Int32))), (.ref ta)])) rfl rfl (hb hby d10_21)
        refine Goes.pre st23 ?_
        have Z23 : n0 ≤ h23.size := Nat.le_trans Z14 (Keep.of_wr W23).1
        have N23 := Fr.snoc X23 N14 pf_G_ta
        have K23 := K14.wr W23 (Or.inl (List.mem_of_getElem? (i := 0) rfl))
        have Iw23 : OwnI Z h23 ta (16 : Int32) (own_upd (own_upd (own_upd ff (uu (0 : Int32)) (-1 : Int32)) (uu (1 : Int32)) (-1 : Int32)) (uu (2 : Int32)) (-1 : Int32)) := OwnI.set Ar23 aS23 aN23 aH23 W23 (own_uR hU hcc (j := (2 : Int32)) (by decide) hL2).2.1 (own_uR hU hcc (j := (2 : Int32)) (by decide) hL2).2.2
        show Goes p e below s _ _ _ (T23.setTop (mkF m 22 #[.val (.ref a1), .val (.int (2 : Int32))] []))
        refine Goes.pre (fun t kt => XS.iinc X23.here hx rfl (hb hby d10_22) rfl (l' := #[.val (.ref a1), .val (.int (3 : Int32))]) rfl kt) ?_
        show Goes p e below s _ _ _ (T23.setTop (mkF m 25 #[.val (.ref a1), .val (.int (3 : Int32))] []))
        refine Goes.pre (fun t kt => XS.goto X23.here hx rfl (pc0 := 25) (pc' := 2) rfl (hb hby d10_25) (by decide) (by decide) kt) ?_
        show Goes p e below s _ _ _ (T23.setTop (mkF m 2 #[.val (.ref a1), .val (.int (3 : Int32))] []))
        refine Goes.pre (fun t kt => XS.iloadN X23.here hx rfl (hb hby d10_2) rfl kt) ?_
        show Goes p e below s _ _ _ (T23.setTop (mkF m 3 #[.val (.ref a1), .val (.int (3 : Int32))] [(.int (3 : Int32))]))
        refine Goes.pre (fun t kt => XS.aloadN X23.here hx rfl (hb hby d10_3) rfl rfl kt) ?_
        show Goes p e below s _ _ _ (T23.setTop (mkF m 4 #[.val (.ref a1), .val (.int (3 : Int32))] [(.ref a1), (.int (3 : Int32))]))
        have fc24 : Fld Z h23 a1 "com/example/nosograph/nosograph/ranking/DocumentSums" "count" "I" (.int cc) := (fc15.other W23 (Or.inl (Ne.symm pf_NE_ta_a1)))
        obtain ⟨T25, X25, e25, st25⟩ := getF X23 hx hZ hown (host := "") (Or.inl (hw _ (List.mem_of_getElem? (i := 55) rfl))) Via.refl e23 fc24 (g := (mkF m 4 #[.val (.ref a1), .val (.int (3 : Int32))] [(.ref a1), (.int (3 : Int32))])) rfl rfl (hb hby d10_4)
        refine Goes.pre st25 ?_
        show Goes p e below s _ _ _ (T25.setTop (mkF m 7 #[.val (.ref a1), .val (.int (3 : Int32))] [(.int cc), (.int (3 : Int32))]))
        refine Goes.pre (fun t kt => XS.icmpYes X25.here hx rfl (pc0 := 7) (pc' := 28) rfl (hb hby d10_7) rfl (Jvm.Free.XT.ii_ge_t ((own_three hcc hI.1))) (by decide) (by decide) kt) ?_
        show Goes p e below s _ _ _ (T25.setTop (mkF m 28 #[.val (.ref a1), .val (.int (3 : Int32))] []))
        refine Goes.pre (fun t kt => XS.aloadN X25.here hx rfl (hb hby d10_28) rfl rfl kt) ?_
        show Goes p e below s _ _ _ (T25.setTop (mkF m 29 #[.val (.ref a1), .val (.int (3 : Int32))] [(.ref a1)]))
        refine Goes.pre (fun t kt => XS.iconst X25.here hx rfl (hb hby d10_29) kt) ?_
        show Goes p e below s _ _ _ (T25.setTop (mkF m 30 #[.val (.ref a1), .val (.int (3 : Int32))] [(.int (0 : Int32)), (.ref a1)]))
        have fc26 : Exa Z h23 a1 "com/example/nosograph/nosograph/ranking/DocumentSums" := (((pf_E_a1.wr W5).wr W14).wr W23)
        obtain ⟨T27, h27, X27, e27, W27, st27⟩ := putF X25 hx hZ hown (host := "") (Or.inl (hw _ (List.mem_of_getElem? (i := 55) rfl))) Via.refl e25 fc24 fc26 (Or.inl (hw _ (List.mem_of_getElem? (i := 56) rfl))) (hw _ (List.mem_of_getElem? (i := 6) rfl)) (ty := .int) (by decide) rfl rfl (g := (mkF m 30 #[.val (.ref a1), .val (.int (3 : Int32))] [(.int (0 : Int32)), (.ref a1)])) rfl rfl (hb hby d10_30)
        refine Goes.pre st27 ?_
        have Z27 : n0 ≤ h27.size := Nat.le_trans Z23 (Keep.of_wr W27).1
        have N27 := Fr.snoc X27 N23 pf_G_a1
        have K27 := K23.wr W27 (Or.inl (List.mem_of_getElem? (i := 1) rfl))
        have Fw27 : Fld Z h27 a1 "com/example/nosograph/nosograph/ranking/DocumentSums" "count" "I" (.int (0 : Int32)) := fc24.same W27
        show Goes p e below s _ _ _ (T27.setTop (mkF m 33 #[.val (.ref a1), .val (.int (3 : Int32))] []))
        have fc28 : Fld Z h27 a1 "com/example/nosograph/nosograph/ranking/DocumentSums" "table" "[I" (.ref ta) := ((fc17.other W23 (Or.inl (Ne.symm pf_NE_ta_a1))).other W27 (Or.inr (slot_ne (Or.inl (hw _ (List.mem_of_getElem? (i := 16) rfl))) (Or.inl (hw _ (List.mem_of_getElem? (i := 56) rfl))) (by decide) (t := (.array .int)) (t' := .int) (by decide) (by decide))))
        have fc29 : Fld Z h27 a1 "com/example/nosograph/nosograph/ranking/DocumentSums" "slots" "[I" (.ref la) := ((fc19.other W23 (Or.inl (Ne.symm pf_NE_ta_a1))).other W27 (Or.inr (slot_ne (Or.inl (hw _ (List.mem_of_getElem? (i := 30) rfl))) (Or.inl (hw _ (List.mem_of_getElem? (i := 56) rfl))) (by decide) (t := (.array .int)) (t' := .int) (by decide) (by decide))))
        have fc30 : Fld Z h27 a1 "com/example/nosograph/nosograph/ranking/DocumentSums" "shift" "I" (.int (28 : Int32)) := ((((pf_F_a1_com_example_nosograph_nosograph_ranking_DocumentSums_shift.other W5 (Or.inl (Ne.symm pf_NE_ta_a1))).other W14 (Or.inl (Ne.symm pf_NE_ta_a1))).other W23 (Or.inl (Ne.symm pf_NE_ta_a1))).other W27 (Or.inr (slot_ne (Or.inl (hw _ (List.mem_of_getElem? (i := 23) rfl))) (Or.inl (hw _ (List.mem_of_getElem? (i := 56) rfl))) (by decide) (t := .int) (t' := .int) (by decide) (by decide))))
        have fc31 : Fld Z h27 a1 "com/example/nosograph/nosograph/ranking/DocumentSums" "documents" "[I" (.ref da) := ((((pf_F_a1_com_example_nosograph_nosograph_ranking_DocumentSums_documents.other W5 (Or.inl (Ne.symm pf_NE_ta_a1))).other W14 (Or.inl (Ne.symm pf_NE_ta_a1))).other W23 (Or.inl (Ne.symm pf_NE_ta_a1))).other W27 (Or.inr (slot_ne (Or.inl (hw _ (List.mem_of_getElem? (i := 25) rfl))) (Or.inl (hw _ (List.mem_of_getElem? (i := 56) rfl))) (by decide) (t := (.array .int)) (t' := .int) (by decide) (by decide))))
        have fc32 : Fld Z h27 a1 "com/example/nosograph/nosograph/ranking/DocumentSums" "sums" "[D" (.ref sa) := ((((pf_F_a1_com_example_nosograph_nosograph_ranking_DocumentSums_sums.other W5 (Or.inl (Ne.symm pf_NE_ta_a1))).other W14 (Or.inl (Ne.symm pf_NE_ta_a1))).other W23 (Or.inl (Ne.symm pf_NE_ta_a1))).other W27 (Or.inr (slot_ne (Or.inl (hw _ (List.mem_of_getElem? (i := 28) rfl))) (Or.inl (hw _ (List.mem_of_getElem? (i := 56) rfl))) (by decide) (t := (.array .double)) (t' := .int) (by decide) (by decide))))
        have fc33 : Fld Z h27 a1 "com/example/nosograph/nosograph/ranking/DocumentSums" "documentCount" "I" (.int nn) := ((((pf_F_a1_com_example_nosograph_nosograph_ranking_DocumentSums_documentCount.other W5 (Or.inl (Ne.symm pf_NE_ta_a1))).other W14 (Or.inl (Ne.symm pf_NE_ta_a1))).other W23 (Or.inl (Ne.symm pf_NE_ta_a1))).other W27 (Or.inr (slot_ne (Or.inr (hw _ (List.mem_of_getElem? (i := 32) rfl))) (Or.inl (hw _ (List.mem_of_getElem? (i := 56) rfl))) (by decide) (t := .int) (t' := .int) (by decide) (by decide))))
        have fc34 : OwnI Z h27 ta (16 : Int32) (own_upd (own_upd (own_upd ff (uu (0 : Int32)) (-1 : Int32)) (uu (1 : Int32)) (-1 : Int32)) (uu (2 : Int32)) (-1 : Int32)) := (Iw23.other W27 pf_NE_ta_a1)
        refine Goes.ret X27 none (fun _ => rfl) (BodyLoose.notSynchronized Bd) (by decide) (by decide) (fun fs hr => X27.returnOut hx Bd.returns (hb hby d10_33) hr) ?_
        show Q_rmclear Z a1 ta da sa la ff gg uu n1 nn cc h0 n0 _ T27.heap _
        rw [e27]
        exact ⟨rfl, N27, K27, fc28, fc29, Fw27, fc30, fc31, fc32, fc33, (OwnI.congr (f := own_wipe ff uu 3) fc34 (fun j j0 j1 => own_wipe_all hI hU (by have := own_nk hcc (own_three hcc hI.1); rw [show ((3 : Int32)).toInt = 3 by decide] at this; omega) j j0 j1))⟩
      · refine Goes.pre (fun t kt => XS.icmpYes X16.here hx rfl (pc0 := 7) (pc' := 28) rfl (hb hby d10_7) rfl (Jvm.Free.XT.ii_ge_t (hL2)) (by decide) (by decide) kt) ?_
        show Goes p e below s _ _ _ (T16.setTop (mkF m 28 #[.val (.ref a1), .val (.int (2 : Int32))] []))
        refine Goes.pre (fun t kt => XS.aloadN X16.here hx rfl (hb hby d10_28) rfl rfl kt) ?_
        show Goes p e below s _ _ _ (T16.setTop (mkF m 29 #[.val (.ref a1), .val (.int (2 : Int32))] [(.ref a1)]))
        refine Goes.pre (fun t kt => XS.iconst X16.here hx rfl (hb hby d10_29) kt) ?_
        show Goes p e below s _ _ _ (T16.setTop (mkF m 30 #[.val (.ref a1), .val (.int (2 : Int32))] [(.int (0 : Int32)), (.ref a1)]))
        have fc35 : Exa Z h14 a1 "com/example/nosograph/nosograph/ranking/DocumentSums" := ((pf_E_a1.wr W5).wr W14)
        obtain ⟨T36, h36, X36, e36, W36, st36⟩ := putF X16 hx hZ hown (host := "") (Or.inl (hw _ (List.mem_of_getElem? (i := 55) rfl))) Via.refl e16 fc15 fc35 (Or.inl (hw _ (List.mem_of_getElem? (i := 56) rfl))) (hw _ (List.mem_of_getElem? (i := 6) rfl)) (ty := .int) (by decide) rfl rfl (g := (mkF m 30 #[.val (.ref a1), .val (.int (2 : Int32))] [(.int (0 : Int32)), (.ref a1)])) rfl rfl (hb hby d10_30)
        refine Goes.pre st36 ?_
        have Z36 : n0 ≤ h36.size := Nat.le_trans Z14 (Keep.of_wr W36).1
        have N36 := Fr.snoc X36 N14 pf_G_a1
        have K36 := K14.wr W36 (Or.inl (List.mem_of_getElem? (i := 1) rfl))
        have Fw36 : Fld Z h36 a1 "com/example/nosograph/nosograph/ranking/DocumentSums" "count" "I" (.int (0 : Int32)) := fc15.same W36
        show Goes p e below s _ _ _ (T36.setTop (mkF m 33 #[.val (.ref a1), .val (.int (2 : Int32))] []))
        have fc37 : Fld Z h36 a1 "com/example/nosograph/nosograph/ranking/DocumentSums" "table" "[I" (.ref ta) := ((fc8.other W14 (Or.inl (Ne.symm pf_NE_ta_a1))).other W36 (Or.inr (slot_ne (Or.inl (hw _ (List.mem_of_getElem? (i := 16) rfl))) (Or.inl (hw _ (List.mem_of_getElem? (i := 56) rfl))) (by decide) (t := (.array .int)) (t' := .int) (by decide) (by decide))))
        have fc38 : Fld Z h36 a1 "com/example/nosograph/nosograph/ranking/DocumentSums" "slots" "[I" (.ref la) := ((fc10.other W14 (Or.inl (Ne.symm pf_NE_ta_a1))).other W36 (Or.inr (slot_ne (Or.inl (hw _ (List.mem_of_getElem? (i := 30) rfl))) (Or.inl (hw _ (List.mem_of_getElem? (i := 56) rfl))) (by decide) (t := (.array .int)) (t' := .int) (by decide) (by decide))))
        have fc39 : Fld Z h36 a1 "com/example/nosograph/nosograph/ranking/DocumentSums" "shift" "I" (.int (28 : Int32)) := (((pf_F_a1_com_example_nosograph_nosograph_ranking_DocumentSums_shift.other W5 (Or.inl (Ne.symm pf_NE_ta_a1))).other W14 (Or.inl (Ne.symm pf_NE_ta_a1))).other W36 (Or.inr (slot_ne (Or.inl (hw _ (List.mem_of_getElem? (i := 23) rfl))) (Or.inl (hw _ (List.mem_of_getElem? (i := 56) rfl))) (by decide) (t := .int) (t' := .int) (by decide) (by decide))))
        have fc40 : Fld Z h36 a1 "com/example/nosograph/nosograph/ranking/DocumentSums" "documents" "[I" (.ref da) := (((pf_F_a1_com_example_nosograph_nosograph_ranking_DocumentSums_documents.other W5 (Or.inl (Ne.symm pf_NE_ta_a1))).other W14 (Or.inl (Ne.symm pf_NE_ta_a1))).other W36 (Or.inr (slot_ne (Or.inl (hw _ (List.mem_of_getElem? (i := 25) rfl))) (Or.inl (hw _ (List.mem_of_getElem? (i := 56) rfl))) (by decide) (t := (.array .int)) (t' := .int) (by decide) (by decide))))
        have fc41 : Fld Z h36 a1 "com/example/nosograph/nosograph/ranking/DocumentSums" "sums" "[D" (.ref sa) := (((pf_F_a1_com_example_nosograph_nosograph_ranking_DocumentSums_sums.other W5 (Or.inl (Ne.symm pf_NE_ta_a1))).other W14 (Or.inl (Ne.symm pf_NE_ta_a1))).other W36 (Or.inr (slot_ne (Or.inl (hw _ (List.mem_of_getElem? (i := 28) rfl))) (Or.inl (hw _ (List.mem_of_getElem? (i := 56) rfl))) (by decide) (t := (.array .double)) (t' := .int) (by decide) (by decide))))
        have fc42 : Fld Z h36 a1 "com/example/nosograph/nosograph/ranking/DocumentSums" "documentCount" "I" (.int nn) := (((pf_F_a1_com_example_nosograph_nosograph_ranking_DocumentSums_documentCount.other W5 (Or.inl (Ne.symm pf_NE_ta_a1))).other W14 (Or.inl (Ne.symm pf_NE_ta_a1))).other W36 (Or.inr (slot_ne (Or.inr (hw _ (List.mem_of_getElem? (i := 32) rfl))) (Or.inl (hw _ (List.mem_of_getElem? (i := 56) rfl))) (by decide) (t := .int) (t' := .int) (by decide) (by decide))))
        have fc43 : OwnI Z h36 ta (16 : Int32) (own_upd (own_upd ff (uu (0 : Int32)) (-1 : Int32)) (uu (1 : Int32)) (-1 : Int32)) := (Iw14.other W36 pf_NE_ta_a1)
        refine Goes.ret X36 none (fun _ => rfl) (BodyLoose.notSynchronized Bd) (by decide) (by decide) (fun fs hr => X36.returnOut hx Bd.returns (hb hby d10_33) hr) ?_
        show Q_rmclear Z a1 ta da sa la ff gg uu n1 nn cc h0 n0 _ T36.heap _
        rw [e36]
        exact ⟨rfl, N36, K36, fc37, fc38, Fw36, fc39, fc40, fc41, fc42, (OwnI.congr (f := own_wipe ff uu 2) fc43 (fun j j0 j1 => own_wipe_all hI hU (by have := own_nk hcc hL2; rw [show ((2 : Int32)).toInt = 2 by decide] at this; omega) j j0 j1))⟩
    · refine Goes.pre (fun t kt => XS.icmpYes X7.here hx rfl (pc0 := 7) (pc' := 28) rfl (hb hby d10_7) rfl (Jvm.Free.XT.ii_ge_t (hL1)) (by decide) (by decide) kt) ?_
      show Goes p e below s _ _ _ (T7.setTop (mkF m 28 #[.val (.ref a1), .val (.int (1 : Int32))] []))
      refine Goes.pre (fun t kt => XS.aloadN X7.here hx rfl (hb hby d10_28) rfl rfl kt) ?_
      show Goes p e below s _ _ _ (T7.setTop (mkF m 29 #[.val (.ref a1), .val (.int (1 : Int32))] [(.ref a1)]))
      refine Goes.pre (fun t kt => XS.iconst X7.here hx rfl (hb hby d10_29) kt) ?_
      show Goes p e below s _ _ _ (T7.setTop (mkF m 30 #[.val (.ref a1), .val (.int (1 : Int32))] [(.int (0 : Int32)), (.ref a1)]))
      have fc44 : Exa Z h5 a1 "com/example/nosograph/nosograph/ranking/DocumentSums" := (pf_E_a1.wr W5)
      obtain ⟨T45, h45, X45, e45, W45, st45⟩ := putF X7 hx hZ hown (host := "") (Or.inl (hw _ (List.mem_of_getElem? (i := 55) rfl))) Via.refl e7 fc6 fc44 (Or.inl (hw _ (List.mem_of_getElem? (i := 56) rfl))) (hw _ (List.mem_of_getElem? (i := 6) rfl)) (ty := .int) (by decide) rfl rfl (g := (mkF m 30 #[.val (.ref a1), .val (.int (1 : Int32))] [(.int (0 : Int32)), (.ref a1)])) rfl rfl (hb hby d10_30)
      refine Goes.pre st45 ?_
      have Z45 : n0 ≤ h45.size := Nat.le_trans Z5 (Keep.of_wr W45).1
      have N45 := Fr.snoc X45 N5 pf_G_a1
      have K45 := K5.wr W45 (Or.inl (List.mem_of_getElem? (i := 1) rfl))
      have Fw45 : Fld Z h45 a1 "com/example/nosograph/nosograph/ranking/DocumentSums" "count" "I" (.int (0 : Int32)) := fc6.same W45
      show Goes p e below s _ _ _ (T45.setTop (mkF m 33 #[.val (.ref a1), .val (.int (1 : Int32))] []))
      have fc46 : Fld Z h45 a1 "com/example/nosograph/nosograph/ranking/DocumentSums" "table" "[I" (.ref ta) := ((pf_F_a1_com_example_nosograph_nosograph_ranking_DocumentSums_table.other W5 (Or.inl (Ne.symm pf_NE_ta_a1))).other W45 (Or.inr (slot_ne (Or.inl (hw _ (List.mem_of_getElem? (i := 16) rfl))) (Or.inl (hw _ (List.mem_of_getElem? (i := 56) rfl))) (by decide) (t := (.array .int)) (t' := .int) (by decide) (by decide))))
      have fc47 : Fld Z h45 a1 "com/example/nosograph/nosograph/ranking/DocumentSums" "slots" "[I" (.ref la) := ((pf_F_a1_com_example_nosograph_nosograph_ranking_DocumentSums_slots.other W5 (Or.inl (Ne.symm pf_NE_ta_a1))).other W45 (Or.inr (slot_ne (Or.inl (hw _ (List.mem_of_getElem? (i := 30) rfl))) (Or.inl (hw _ (List.mem_of_getElem? (i := 56) rfl))) (by decide) (t := (.array .int)) (t' := .int) (by decide) (by decide))))
      have fc48 : Fld Z h45 a1 "com/example/nosograph/nosograph/ranking/DocumentSums" "shift" "I" (.int (28 : Int32)) := ((pf_F_a1_com_example_nosograph_nosograph_ranking_DocumentSums_shift.other W5 (Or.inl (Ne.symm pf_NE_ta_a1))).other W45 (Or.inr (slot_ne (Or.inl (hw _ (List.mem_of_getElem? (i := 23) rfl))) (Or.inl (hw _ (List.mem_of_getElem? (i := 56) rfl))) (by decide) (t := .int) (t' := .int) (by decide) (by decide))))
      have fc49 : Fld Z h45 a1 "com/example/nosograph/nosograph/ranking/DocumentSums" "documents" "[I" (.ref da) := ((pf_F_a1_com_example_nosograph_nosograph_ranking_DocumentSums_documents.other W5 (Or.inl (Ne.symm pf_NE_ta_a1))).other W45 (Or.inr (slot_ne (Or.inl (hw _ (List.mem_of_getElem? (i := 25) rfl))) (Or.inl (hw _ (List.mem_of_getElem? (i := 56) rfl))) (by decide) (t := (.array .int)) (t' := .int) (by decide) (by decide))))
      have fc50 : Fld Z h45 a1 "com/example/nosograph/nosograph/ranking/DocumentSums" "sums" "[D" (.ref sa) := ((pf_F_a1_com_example_nosograph_nosograph_ranking_DocumentSums_sums.other W5 (Or.inl (Ne.symm pf_NE_ta_a1))).other W45 (Or.inr (slot_ne (Or.inl (hw _ (List.mem_of_getElem? (i := 28) rfl))) (Or.inl (hw _ (List.mem_of_getElem? (i := 56) rfl))) (by decide) (t := (.array .double)) (t' := .int) (by decide) (by decide))))
      have fc51 : Fld Z h45 a1 "com/example/nosograph/nosograph/ranking/DocumentSums" "documentCount" "I" (.int nn) := ((pf_F_a1_com_example_nosograph_nosograph_ranking_DocumentSums_documentCount.other W5 (Or.inl (Ne.symm pf_NE_ta_a1))).other W45 (Or.inr (slot_ne (Or.inr (hw _ (List.mem_of_getElem? (i := 32) rfl))) (Or.inl (hw _ (List.mem_of_getElem? (i := 56) rfl))) (by decide) (t := .int) (t' := .int) (by decide) (by decide))))
      have fc52 : OwnI Z h45 ta (16 : Int32) (own_upd ff (uu (0 : Int32)) (-1 : Int32)) := (Iw5.other W45 pf_NE_ta_a1)
      refine Goes.ret X45 none (fun _ => rfl) (BodyLoose.notSynchronized Bd) (by decide) (by decide) (fun fs hr => X45.returnOut hx Bd.returns (hb hby d10_33) hr) ?_
      show Q_rmclear Z a1 ta da sa la ff gg uu n1 nn cc h0 n0 _ T45.heap _
      rw [e45]
      exact ⟨rfl, N45, K45, fc46, fc47, Fw45, fc48, fc49, fc50, fc51, (OwnI.congr (f := own_wipe ff uu 1) fc52 (fun j j0 j1 => own_wipe_all hI hU (by have := own_nk hcc hL1; rw [show ((1 : Int32)).toInt = 1 by decide] at this; omega) j j0 j1))⟩
  · refine Goes.pre (fun t kt => XS.icmpYes X1.here hx rfl (pc0 := 7) (pc' := 28) rfl (hb hby d10_7) rfl (Jvm.Free.XT.ii_ge_t (hL0)) (by decide) (by decide) kt) ?_
    show Goes p e below s _ _ _ (T1.setTop (mkF m 28 #[.val (.ref a1), .val (.int (0 : Int32))] []))
    refine Goes.pre (fun t kt => XS.aloadN X1.here hx rfl (hb hby d10_28) rfl rfl kt) ?_
    show Goes p e below s _ _ _ (T1.setTop (mkF m 29 #[.val (.ref a1), .val (.int (0 : Int32))] [(.ref a1)]))
    refine Goes.pre (fun t kt => XS.iconst X1.here hx rfl (hb hby d10_29) kt) ?_
    show Goes p e below s _ _ _ (T1.setTop (mkF m 30 #[.val (.ref a1), .val (.int (0 : Int32))] [(.int (0 : Int32)), (.ref a1)]))
    obtain ⟨T53, h53, X53, e53, W53, st53⟩ := putF X1 hx hZ hown (host := "") (Or.inl (hw _ (List.mem_of_getElem? (i := 55) rfl))) Via.refl e1 pf_F_a1_com_example_nosograph_nosograph_ranking_DocumentSums_count pf_E_a1 (Or.inl (hw _ (List.mem_of_getElem? (i := 56) rfl))) (hw _ (List.mem_of_getElem? (i := 6) rfl)) (ty := .int) (by decide) rfl rfl (g := (mkF m 30 #[.val (.ref a1), .val (.int (0 : Int32))] [(.int (0 : Int32)), (.ref a1)])) rfl rfl (hb hby d10_30)
    refine Goes.pre st53 ?_
    have Z53 : n0 ≤ h53.size := Nat.le_trans Z0 (Keep.of_wr W53).1
    have N53 := Fr.snoc X53 N0 pf_G_a1
    have K53 := K0.wr W53 (Or.inl (List.mem_of_getElem? (i := 1) rfl))
    have Fw53 : Fld Z h53 a1 "com/example/nosograph/nosograph/ranking/DocumentSums" "count" "I" (.int (0 : Int32)) := pf_F_a1_com_example_nosograph_nosograph_ranking_DocumentSums_count.same W53
    show Goes p e below s _ _ _ (T53.setTop (mkF m 33 #[.val (.ref a1), .val (.int (0 : Int32))] []))
    have fc54 : Fld Z h53 a1 "com/example/nosograph/nosograph/ranking/DocumentSums" "table" "[I" (.ref ta) := (pf_F_a1_com_example_nosograph_nosograph_ranking_DocumentSums_table.other W53 (Or.inr (slot_ne (Or.inl (hw _ (List.mem_of_getElem? (i := 16) rfl))) (Or.inl (hw _ (List.mem_of_getElem? (i := 56) rfl))) (by decide) (t := (.array .int)) (t' := .int) (by decide) (by decide))))
    have fc55 : Fld Z h53 a1 "com/example/nosograph/nosograph/ranking/DocumentSums" "slots" "[I" (.ref la) := (pf_F_a1_com_example_nosograph_nosograph_ranking_DocumentSums_slots.other W53 (Or.inr (slot_ne (Or.inl (hw _ (List.mem_of_getElem? (i := 30) rfl))) (Or.inl (hw _ (List.mem_of_getElem? (i := 56) rfl))) (by decide) (t := (.array .int)) (t' := .int) (by decide) (by decide))))
    have fc56 : Fld Z h53 a1 "com/example/nosograph/nosograph/ranking/DocumentSums" "shift" "I" (.int (28 : Int32)) := (pf_F_a1_com_example_nosograph_nosograph_ranking_DocumentSums_shift.other W53 (Or.inr (slot_ne (Or.inl (hw _ (List.mem_of_getElem? (i := 23) rfl))) (Or.inl (hw _ (List.mem_of_getElem? (i := 56) rfl))) (by decide) (t := .int) (t' := .int) (by decide) (by decide))))
    have fc57 : Fld Z h53 a1 "com/example/nosograph/nosograph/ranking/DocumentSums" "documents" "[I" (.ref da) := (pf_F_a1_com_example_nosograph_nosograph_ranking_DocumentSums_documents.other W53 (Or.inr (slot_ne (Or.inl (hw _ (List.mem_of_getElem? (i := 25) rfl))) (Or.inl (hw _ (List.mem_of_getElem? (i := 56) rfl))) (by decide) (t := (.array .int)) (t' := .int) (by decide) (by decide))))
    have fc58 : Fld Z h53 a1 "com/example/nosograph/nosograph/ranking/DocumentSums" "sums" "[D" (.ref sa) := (pf_F_a1_com_example_nosograph_nosograph_ranking_DocumentSums_sums.other W53 (Or.inr (slot_ne (Or.inl (hw _ (List.mem_of_getElem? (i := 28) rfl))) (Or.inl (hw _ (List.mem_of_getElem? (i := 56) rfl))) (by decide) (t := (.array .double)) (t' := .int) (by decide) (by decide))))
    have fc59 : Fld Z h53 a1 "com/example/nosograph/nosograph/ranking/DocumentSums" "documentCount" "I" (.int nn) := (pf_F_a1_com_example_nosograph_nosograph_ranking_DocumentSums_documentCount.other W53 (Or.inr (slot_ne (Or.inr (hw _ (List.mem_of_getElem? (i := 32) rfl))) (Or.inl (hw _ (List.mem_of_getElem? (i := 56) rfl))) (by decide) (t := .int) (t' := .int) (by decide) (by decide))))
    have fc60 : OwnI Z h53 ta (16 : Int32) ff := (pf_I_ta.other W53 pf_NE_ta_a1)
    refine Goes.ret X53 none (fun _ => rfl) (BodyLoose.notSynchronized Bd) (by decide) (by decide) (fun fs hr => X53.returnOut hx Bd.returns (hb hby d10_33) hr) ?_
    show Q_rmclear Z a1 ta da sa la ff gg uu n1 nn cc h0 n0 _ T53.heap _
    rw [e53]
    exact ⟨rfl, N53, K53, fc54, fc55, Fw53, fc56, fc57, fc58, fc59, (OwnI.congr (f := own_wipe ff uu 0) fc60 (fun j j0 j1 => own_wipe_all hI hU (by have := own_nk hcc hL0; rw [show ((0 : Int32)).toInt = 0 by decide] at this; omega) j j0 j1))⟩
theorem d11_0 : decode prog_56_method_4_code 0 = .ok (.aload_n 0, 1) := by decide +kernel
theorem d11_1 : decode prog_56_method_4_code 1 = .ok (.getfield 9, 3) := by decide +kernel
theorem d11_4 : decode prog_56_method_4_code 4 = .ok (.aload_n 0, 1) := by decide +kernel
theorem d11_5 : decode prog_56_method_4_code 5 = .ok (.iload_n 1, 1) := by decide +kernel
theorem d11_6 : decode prog_56_method_4_code 6 = .ok (.invokevirtual 48, 3) := by decide +kernel
theorem d11_9 : decode prog_56_method_4_code 9 = .ok (.iaload, 1) := by decide +kernel
theorem d11_10 : decode prog_56_method_4_code 10 = .ok (.iconst (-1), 1) := by decide +kernel
theorem d11_11 : decode prog_56_method_4_code 11 = .ok (.if_icmp .eq 7, 3) := by decide +kernel
theorem d11_18 : decode prog_56_method_4_code 18 = .ok (.iconst 0, 1) := by decide +kernel
theorem d11_19 : decode prog_56_method_4_code 19 = .ok (.ireturn, 1) := by decide +kernel
def Q_rmholds (Z : State) (a1 : Addr) (dd : Int32) (ta : Addr) (da : Addr) (ff : (Int32 → Int32)) (gg : (Int32 → Int32)) (n1 : Nat) (h0 : Heap) (n0 : Nat) (v : Option Value) (h : Heap) (L : List Loc) : Prop := v = some (.int (0 : Int32)) ∧ Fr n0 L ∧ h = h0
theorem ef_rmholds (m : MethodId) (a1 : Addr) (dd : Int32) : entryFrame m #[(.ref a1), (.int dd)] 2 = mkF m 0 #[.val (.ref a1), .val (.int dd)] [] := by first | (simp [entryFrame, mkF, argsToLocals, Value.category]; done) | rfl
set_option maxRecDepth 65536 in
set_option maxHeartbeats 40000000 in
theorem rmholds (l : Launch) (Z : State) (a0 : Array Value) (hw : ∀ d ∈ tables_1, d.before a0 Z = true) (ws : List Jvm.Cond) (a1 : Addr) (dd : Int32) (ta : Addr) (da : Addr) (ff : (Int32 → Int32)) (gg : (Int32 → Int32)) (n1 : Nat) (h0 : Heap) (n0 : Nat) (Z0 : n0 ≤ h0.size) (pf_E_a1 : Exa Z h0 a1 "com/example/nosograph/nosograph/ranking/DocumentSums") (pf_F_a1_com_example_nosograph_nosograph_ranking_DocumentSums_table : Fld Z h0 a1 "com/example/nosograph/nosograph/ranking/DocumentSums" "table" "[I" (.ref ta)) (pf_F_a1_com_example_nosograph_nosograph_ranking_DocumentSums_shift : Fld Z h0 a1 "com/example/nosograph/nosograph/ranking/DocumentSums" "shift" "I" (.int (28 : Int32))) (pf_F_a1_com_example_nosograph_nosograph_ranking_DocumentSums_documents : Fld Z h0 a1 "com/example/nosograph/nosograph/ranking/DocumentSums" "documents" "[I" (.ref da)) (pf_I_ta : OwnI Z h0 ta (16 : Int32) ff) (pf_I_da : OwnI Z h0 da (8 : Int32) gg) (hI : own_inv ff gg n1) (hz : ∀ j : Int32, ff j = (-1 : Int32)) :
    MetFree l (⟨"com/example/nosograph/nosograph/ranking/DocumentSums", "holds", "(I)Z"⟩ : MethodName) (head1 (Jvm.Cond.code (⟨"com/example/nosograph/nosograph/ranking/DocumentSums", "holds", "(I)Z"⟩ : MethodName) prog_56_method_4_code 2 (some .boolean) :: ws) ({ frames := 1, cells := 0, slots := 0, locals := 16 } : Room)) (fun a U => a = #[(.ref a1), (.int dd)] ∧ Z.Warmed39 U.vm ∧ U.heap = h0) (fun _ _ _ _ _ => True) (fun _ U o U' => ∃ v L, o = .returned v ∧ Q_rmholds Z a1 dd ta da ff gg n1 h0 n0 v U'.heap L ∧ FrameEnd U o U' L ({ frames := 1, cells := 0, slots := 0, locals := 16 } : Room).cells ({ frames := 1, cells := 0, slots := 0, locals := 16 } : Room).slots) := by
  refine MetFree.of_bodySF (plainFor_of_name pn_4) hisR ?_
  intro p e s m args below meth c s₁ Bd hml0 hP hK
  obtain ⟨rfl, hZ, hh⟩ := hP
  have hx := Bd.exec
  have hby := Bd.bytes
  have hml : c.maxLocals = 2 := hml0
  have hown : s.vm.findClass "com/example/nosograph/nosograph/ranking/DocumentSums" = some m.cls := findClass_of_methodNamed Bd.named
  have hnm := (name_of_methodNamed Bd.named Bd.method).1
  have X0 : Stand p l e ({ frames := 1, cells := 0, slots := 0, locals := 16 } : Room) s m #[(.ref a1), (.int dd)] below meth c s₁ [] 0 0 := Stand.of_body Bd
  have e0 : s₁.heap = h0 := by rw [← hh, Bd.state]; rfl
  have N0 := Fr.nil n0
  show Goes p e below s (Q_rmholds Z a1 dd ta da ff gg n1 h0 n0) ({ frames := 1, cells := 0, slots := 0, locals := 16 } : Room).cells ({ frames := 1, cells := 0, slots := 0, locals := 16 } : Room).slots (s₁.setTop (entryFrame m #[(.ref a1), (.int dd)] 2))
  refine Goes.pre (fun t kt => castTop (ef_rmholds m a1 dd) kt) ?_
  show Goes p e below s _ _ _ (s₁.setTop (mkF m 0 #[.val (.ref a1), .val (.int dd)] []))
  refine Goes.pre (fun t kt => XS.aloadN X0.here hx rfl (hb hby d11_0) rfl rfl kt) ?_
  show Goes p e below s _ _ _ (s₁.setTop (mkF m 1 #[.val (.ref a1), .val (.int dd)] [(.ref a1)]))
  obtain ⟨T1, X1, e1, st1⟩ := getF X0 hx hZ hown (host := "") (Or.inl (hw _ (List.mem_of_getElem? (i := 15) rfl))) Via.refl e0 pf_F_a1_com_example_nosograph_nosograph_ranking_DocumentSums_table (g := (mkF m 1 #[.val (.ref a1), .val (.int dd)] [(.ref a1)])) rfl rfl (hb hby d11_1)
  refine Goes.pre st1 ?_
  show Goes p e below s _ _ _ (T1.setTop (mkF m 4 #[.val (.ref a1), .val (.int dd)] [(.ref ta)]))
  refine Goes.pre (fun t kt => XS.aloadN X1.here hx rfl (hb hby d11_4) rfl rfl kt) ?_
  show Goes p e below s _ _ _ (T1.setTop (mkF m 5 #[.val (.ref a1), .val (.int dd)] [(.ref a1), (.ref ta)]))
  refine Goes.pre (fun t kt => XS.iloadN X1.here hx rfl (hb hby d11_5) rfl kt) ?_
  show Goes p e below s _ _ _ (T1.setTop (mkF m 6 #[.val (.ref a1), .val (.int dd)] [(.int dd), (.ref a1), (.ref ta)]))
  obtain ⟨cq3, qa3, qb3⟩ := pf_E_a1.cell
  obtain ⟨_, _, ⟨T2, L2, k2, n2⟩, -, X2, ⟨Lc2, hQ2, l2, y2, z2⟩, st2⟩ := X1.privateBack hx (y := (⟨"com/example/nosograph/nosograph/ranking/DocumentSums", "slot", "(I)I"⟩ : MethodName)) hown (mvT hZ (hw _ (List.mem_of_getElem? (i := 50) rfl))) (mvT hZ (hw _ (List.mem_of_getElem? (i := 51) rfl))) (own_selp (y := (⟨"com/example/nosograph/nosograph/ranking/DocumentSums", "slot", "(I)I"⟩ : MethodName)) (a1 := #[]) (mvT hZ (hw _ (List.mem_of_getElem? (i := 6) rfl))) (Cond.privateMethod_at (mvP hZ (hw _ (List.mem_of_getElem? (i := 52) rfl)) (args := #[]))) (mvT hZ (hw _ (List.mem_of_getElem? (i := 51) rfl))) (by decide)) (Cond.privateMethod_at (mvP hZ (hw _ (List.mem_of_getElem? (i := 52) rfl)) (args := #[]))) (mvT hZ (hw _ (List.mem_of_getElem? (i := 53) rfl))) (by decide) (backOf (W := 1) (rmslot l Z a0 hw [] a1 dd ta da ff gg n1 h0 n0 Z0 pf_F_a1_com_example_nosograph_nosograph_ranking_DocumentSums_table pf_F_a1_com_example_nosograph_nosograph_ranking_DocumentSums_shift pf_F_a1_com_example_nosograph_nosograph_ranking_DocumentSums_documents pf_I_ta pf_I_da (hI)) hZ (hw _ (List.mem_of_getElem? (i := 53) rfl)) (hw _ (List.mem_of_getElem? (i := 7) rfl)) (by decide) (by decide)) (g := (mkF m 6 #[.val (.ref a1), .val (.int dd)] [(.int dd), (.ref a1), (.ref ta)])) rfl (by rw [hml]; rfl) (Steps.refl _) (a := a1) (by rw [e1]; exact qa3) qb3 (argsL := [(.int dd)]) (rest := [(.ref ta)]) (lenOf pd_2 rfl) rfl (by show 2 * 0 + _ ≤ _; exact Nat.le_of_eq rfl) (hb hby d11_6) (fun _ _ => ⟨rfl, e1, (by decide : 0 + 0 ≤ _), (by decide : 0 + 0 ≤ _)⟩)
  dsimp only [Pt.U, Pt.locs, Pt.cells, Pt.slots] at X2 l2 y2 z2 st2 hQ2
  subst l2 y2 z2
  obtain ⟨sl_2, rfl, Nq2, eq2, pq2_0⟩ := hQ2
  refine Goes.run st2 ?_
  have N2 := Fr.app N0 Nq2
  show Goes p e below s _ _ _ (T2.setTop (mkF m 9 #[.val (.ref a1), .val (.int dd)] [(.int sl_2), (.ref ta)]))
  obtain ⟨cl4, Ar4, aS4, aN4, aH4⟩ := pf_I_ta
  have In4 : OwnI Z h0 ta (16 : Int32) ff := ⟨cl4, Ar4, aS4, aN4, aH4⟩
  have hin4 : ¬ (sl_2 < 0 ∨ cl4.slots.size ≤ (sl_2).toNatClampNeg) := inb_of aS4 ⟨(own_slotR pq2_0).1, (own_slotR pq2_0).2⟩
  have hat4 : cl4.slots[(sl_2).toNatClampNeg]? = some (.int (ff sl_2)) := aH4 _ (own_slotR pq2_0).1 (own_slotR pq2_0).2
  refine Goes.pre (X2.iaload hx (j := sl_2) (v := (.int (ff sl_2))) (by rw [eq2]; exact Ar4.1) (State.isArrayOf_alike hZ.alike Ar4.2.1) Ar4.2.2 hin4 hat4 (g := (mkF m 9 #[.val (.ref a1), .val (.int dd)] [(.int sl_2), (.ref ta)])) rfl rfl (hb hby d11_9)) ?_
  show Goes p e below s _ _ _ (T2.setTop (mkF m 10 #[.val (.ref a1), .val (.int dd)] [(.int (ff sl_2))]))
  refine Goes.pre (fun t kt => XS.iconst X2.here hx rfl (hb hby d11_10) kt) ?_
  show Goes p e below s _ _ _ (T2.setTop (mkF m 11 #[.val (.ref a1), .val (.int dd)] [(.int (-1 : Int32)), (.int (ff sl_2))]))
  refine Goes.pre (fun t kt => XS.icmpYes X2.here hx rfl (pc0 := 11) (pc' := 18) rfl (hb hby d11_11) rfl (Jvm.Free.XT.ii_eq_t ((hz _))) (by decide) (by decide) kt) ?_
  show Goes p e below s _ _ _ (T2.setTop (mkF m 18 #[.val (.ref a1), .val (.int dd)] []))
  refine Goes.pre (fun t kt => XS.iconst X2.here hx rfl (hb hby d11_18) kt) ?_
  show Goes p e below s _ _ _ (T2.setTop (mkF m 19 #[.val (.ref a1), .val (.int dd)] [(.int (0 : Int32))]))
  refine Goes.ret X2 (some (.int (0 : Int32))) (fun h => by rw [Bd.returns] at h; cases h) (BodyLoose.notSynchronized Bd) (by decide) (by decide) (fun fs hr => retN X2 hx (t := .boolean) Bd.returns (by simp) (hb hby d11_19) hr) ?_
  show Q_rmholds Z a1 dd ta da ff gg n1 h0 n0 _ T2.heap _
  rw [eq2]
  exact ⟨rfl, N2, rfl⟩
theorem d14_0 : decode jdk_29_method_69_code 0 = .ok (.iload_n 0, 1) := by decide +kernel
theorem d14_1 : decode jdk_29_method_69_code 1 = .ok (.iload_n 1, 1) := by decide +kernel
theorem d14_2 : decode jdk_29_method_69_code 2 = .ok (.if_icmp .gt 7, 3) := by decide +kernel
theorem d14_9 : decode jdk_29_method_69_code 9 = .ok (.iload_n 1, 1) := by decide +kernel
theorem d14_10 : decode jdk_29_method_69_code 10 = .ok (.ireturn, 1) := by decide +kernel
theorem d14_5 : decode jdk_29_method_69_code 5 = .ok (.iload_n 0, 1) := by decide +kernel
theorem d14_6 : decode jdk_29_method_69_code 6 = .ok (.goto 4, 3) := by decide +kernel
def Q_rmmin (Z : State) (p1 : Int32) (p2 : Int32) (h0 : Heap) (n0 : Nat) (v : Option Value) (h : Heap) (L : List Loc) : Prop := v = some (.int (own_min p1 p2)) ∧ Fr n0 L ∧ h = h0
theorem ef_rmmin (m : MethodId) (p1 : Int32) (p2 : Int32) : entryFrame m #[(.int p1), (.int p2)] 2 = mkF m 0 #[.val (.int p1), .val (.int p2)] [] := by first | (simp [entryFrame, mkF, argsToLocals, Value.category]; done) | rfl
set_option maxRecDepth 65536 in
set_option maxHeartbeats 40000000 in
theorem rmmin (l : Launch) (Z : State) (a0 : Array Value) (hw : ∀ d ∈ tables_1, d.before a0 Z = true) (ws : List Jvm.Cond) (p1 : Int32) (p2 : Int32) (h0 : Heap) (n0 : Nat) (Z0 : n0 ≤ h0.size) :
    MetFree l (⟨"java/lang/Math", "min", "(II)I"⟩ : MethodName) (head1 (Jvm.Cond.code (⟨"java/lang/Math", "min", "(II)I"⟩ : MethodName) jdk_29_method_69_code 2 (some .int) :: ws) ({ frames := 0, cells := 0, slots := 0, locals := 0 } : Room)) (fun a U => a = #[(.int p1), (.int p2)] ∧ Z.Warmed39 U.vm ∧ U.heap = h0) (fun _ _ _ _ _ => True) (fun _ U o U' => ∃ v L, o = .returned v ∧ Q_rmmin Z p1 p2 h0 n0 v U'.heap L ∧ FrameEnd U o U' L ({ frames := 0, cells := 0, slots := 0, locals := 0 } : Room).cells ({ frames := 0, cells := 0, slots := 0, locals := 0 } : Room).slots) := by
  refine MetFree.of_bodySF (Jvm.Free.JP.mathPlain rfl (by decide +kernel)) hisR ?_
  intro p e s m args below meth c s₁ Bd hml0 hP hK
  obtain ⟨rfl, hZ, hh⟩ := hP
  have hx := Bd.exec
  have hby := Bd.bytes
  have hml : c.maxLocals = 2 := hml0
  have hown : s.vm.findClass "java/lang/Math" = some m.cls := findClass_of_methodNamed Bd.named
  have hnm := (name_of_methodNamed Bd.named Bd.method).1
  have X0 : Stand p l e ({ frames := 0, cells := 0, slots := 0, locals := 0 } : Room) s m #[(.int p1), (.int p2)] below meth c s₁ [] 0 0 := Stand.of_body Bd
  have e0 : s₁.heap = h0 := by rw [← hh, Bd.state]; rfl
  have N0 := Fr.nil n0
  show Goes p e below s (Q_rmmin Z p1 p2 h0 n0) ({ frames := 0, cells := 0, slots := 0, locals := 0 } : Room).cells ({ frames := 0, cells := 0, slots := 0, locals := 0 } : Room).slots (s₁.setTop (entryFrame m #[(.int p1), (.int p2)] 2))
  refine Goes.pre (fun t kt => castTop (ef_rmmin m p1 p2) kt) ?_
  show Goes p e below s _ _ _ (s₁.setTop (mkF m 0 #[.val (.int p1), .val (.int p2)] []))
  refine Goes.pre (fun t kt => XS.iloadN X0.here hx rfl (hb hby d14_0) rfl kt) ?_
  show Goes p e below s _ _ _ (s₁.setTop (mkF m 1 #[.val (.int p1), .val (.int p2)] [(.int p1)]))
  refine Goes.pre (fun t kt => XS.iloadN X0.here hx rfl (hb hby d14_1) rfl kt) ?_
  show Goes p e below s _ _ _ (s₁.setTop (mkF m 2 #[.val (.int p1), .val (.int p2)] [(.int p2), (.int p1)]))
  by_cases hc2 : p2 < p1
  · refine Goes.pre (fun t kt => XS.icmpYes X0.here hx rfl (pc0 := 2) (pc' := 9) rfl (hb hby d14_2) rfl (Jvm.Free.XT.ii_gt_t (hc2)) (by decide) (by decide) kt) ?_
    show Goes p e below s _ _ _ (s₁.setTop (mkF m 9 #[.val (.int p1), .val (.int p2)] []))
    refine Goes.pre (fun t kt => XS.iloadN X0.here hx rfl (hb hby d14_9) rfl kt) ?_
    show Goes p e below s _ _ _ (s₁.setTop (mkF m 10 #[.val (.int p1), .val (.int p2)] [(.int p2)]))
    refine Goes.ret X0 (some (.int p2)) (fun h => by rw [Bd.returns] at h; cases h) (BodyLoose.notSynchronized Bd) (by decide) (by decide) (fun fs hr => retOut X0 hx (t := .int) Bd.returns rfl (Or.inl ⟨rfl, Or.inl rfl, _, rfl⟩) (hb hby d14_10) hr) ?_
    show Q_rmmin Z p1 p2 h0 n0 _ s₁.heap _
    rw [e0]
    exact ⟨(by unfold own_min; rw [if_pos hc2]), N0, rfl⟩
  · refine Goes.pre (fun t kt => XS.icmpNo X0.here hx rfl (hb hby d14_2) rfl (Jvm.Free.XT.ii_gt_f (hc2)) kt) ?_
    show Goes p e below s _ _ _ (s₁.setTop (mkF m 5 #[.val (.int p1), .val (.int p2)] []))
    refine Goes.pre (fun t kt => XS.iloadN X0.here hx rfl (hb hby d14_5) rfl kt) ?_
    show Goes p e below s _ _ _ (s₁.setTop (mkF m 6 #[.val (.int p1), .val (.int p2)] [(.int p1)]))
    refine Goes.pre (fun t kt => XS.goto X0.here hx rfl (pc0 := 6) (pc' := 10) rfl (hb hby d14_6) (by decide) (by decide) kt) ?_
    show Goes p e below s _ _ _ (s₁.setTop (mkF m 10 #[.val (.int p1), .val (.int p2)] [(.int p1)]))
    refine Goes.ret X0 (some (.int p1)) (fun h => by rw [Bd.returns] at h; cases h) (BodyLoose.notSynchronized Bd) (by decide) (by decide) (fun fs hr => retOut X0 hx (t := .int) Bd.returns rfl (Or.inl ⟨rfl, Or.inl rfl, _, rfl⟩) (hb hby d14_10) hr) ?_
    show Q_rmmin Z p1 p2 h0 n0 _ s₁.heap _
    rw [e0]
    exact ⟨(by unfold own_min; rw [if_neg hc2]), N0, rfl⟩
theorem d13_0 : decode jdk_65_method_123_code 0 = .ok (.iload_n 1, 1) := by decide +kernel
theorem d13_1 : decode jdk_65_method_123_code 1 = .ok (.aload_n 0, 1) := by decide +kernel
theorem d13_2 : decode jdk_65_method_123_code 2 = .ok (.arraylength, 1) := by decide +kernel
theorem d13_3 : decode jdk_65_method_123_code 3 = .ok (.if_icmp .ne 11, 3) := by decide +kernel
theorem d13_14 : decode jdk_65_method_123_code 14 = .ok (.iload_n 1, 1) := by decide +kernel
theorem d13_15 : decode jdk_65_method_123_code 15 = .ok (.newarray .int, 2) := by decide +kernel
theorem d13_17 : decode jdk_65_method_123_code 17 = .ok (.astore_n 2, 1) := by decide +kernel
theorem d13_18 : decode jdk_65_method_123_code 18 = .ok (.aload_n 0, 1) := by decide +kernel
theorem d13_19 : decode jdk_65_method_123_code 19 = .ok (.iconst 0, 1) := by decide +kernel
theorem d13_20 : decode jdk_65_method_123_code 20 = .ok (.aload_n 2, 1) := by decide +kernel
theorem d13_21 : decode jdk_65_method_123_code 21 = .ok (.iconst 0, 1) := by decide +kernel
theorem d13_22 : decode jdk_65_method_123_code 22 = .ok (.aload_n 0, 1) := by decide +kernel
theorem d13_23 : decode jdk_65_method_123_code 23 = .ok (.arraylength, 1) := by decide +kernel
theorem d13_24 : decode jdk_65_method_123_code 24 = .ok (.iload_n 1, 1) := by decide +kernel
theorem d13_25 : decode jdk_65_method_123_code 25 = .ok (.invokestatic 304, 3) := by decide +kernel
theorem d13_28 : decode jdk_65_method_123_code 28 = .ok (.invokestatic 150, 3) := by decide +kernel
theorem d13_31 : decode jdk_65_method_123_code 31 = .ok (.aload_n 2, 1) := by decide +kernel
theorem d13_32 : decode jdk_65_method_123_code 32 = .ok (.areturn, 1) := by decide +kernel
def Q_rmcopy (Z : State) (da : Addr) (kd : ClassId) (dg0 : Int32) (dg1 : Int32) (dg2 : Int32) (dg3 : Int32) (dg4 : Int32) (dg5 : Int32) (dg6 : Int32) (dg7 : Int32) (h0 : Heap) (n0 : Nat) (v : Option Value) (h : Heap) (L : List Loc) : Prop := ∃ r : Addr, ∃ kr : ClassId, v = some (.ref r) ∧ Fr n0 L ∧ Keep h0 h [] ∧ (h0.size ≤ r) ∧ (n0 ≤ r) ∧ (Arv Z h r kr .int (1 : Int32) [(.int dg0)] (.int (0 : Int32)))
theorem ef_rmcopy (m : MethodId) (da : Addr) : entryFrame m #[(.ref da), (.int (1 : Int32))] 3 = mkF m 0 #[.val (.ref da), .val (.int (1 : Int32)), .unset] [] := by first | (simp [entryFrame, mkF, argsToLocals, Value.category]; done) | rfl
set_option maxRecDepth 65536 in
set_option maxHeartbeats 40000000 in
theorem rmcopy (l : Launch) (Z : State) (a0 : Array Value) (hw : ∀ d ∈ tables_1, d.before a0 Z = true) (ws : List Jvm.Cond) (da : Addr) (kd : ClassId) (dg0 : Int32) (dg1 : Int32) (dg2 : Int32) (dg3 : Int32) (dg4 : Int32) (dg5 : Int32) (dg6 : Int32) (dg7 : Int32) (h0 : Heap) (n0 : Nat) (Z0 : n0 ≤ h0.size) (pf_V_da : Arv Z h0 da kd .int (8 : Int32) [(.int dg0), (.int dg1), (.int dg2), (.int dg3), (.int dg4), (.int dg5), (.int dg6), (.int dg7)] (.int (0 : Int32))) :
    MetFree l (⟨"java/util/Arrays", "copyOf", "([II)[I"⟩ : MethodName) (head1 (Jvm.Cond.code (⟨"java/util/Arrays", "copyOf", "([II)[I"⟩ : MethodName) jdk_65_method_123_code 3 (some (.array .int)) :: ws) ({ frames := 1, cells := 1, slots := 1, locals := 32 } : Room)) (fun a U => a = #[(.ref da), (.int (1 : Int32))] ∧ Z.Warmed39 U.vm ∧ U.heap = h0) (fun _ _ _ _ _ => True) (fun _ U o U' => ∃ v L, o = .returned v ∧ Q_rmcopy Z da kd dg0 dg1 dg2 dg3 dg4 dg5 dg6 dg7 h0 n0 v U'.heap L ∧ FrameEnd U o U' L ({ frames := 1, cells := 1, slots := 1, locals := 32 } : Room).cells ({ frames := 1, cells := 1, slots := 1, locals := 32 } : Room).slots) := by
  refine MetFree.of_bodySF (plainFor_of_name pn_1) hisR ?_
  intro p e s m args below meth c s₁ Bd hml0 hP hK
  obtain ⟨rfl, hZ, hh⟩ := hP
  have hx := Bd.exec
  have hby := Bd.bytes
  have hml : c.maxLocals = 3 := hml0
  have hown : s.vm.findClass "java/util/Arrays" = some m.cls := findClass_of_methodNamed Bd.named
  have hnm := (name_of_methodNamed Bd.named Bd.method).1
  have X0 : Stand p l e ({ frames := 1, cells := 1, slots := 1, locals := 32 } : Room) s m #[(.ref da), (.int (1 : Int32))] below meth c s₁ [] 0 0 := Stand.of_body Bd
  have e0 : s₁.heap = h0 := by rw [← hh, Bd.state]; rfl
  have N0 := Fr.nil n0
  have K0 := Keep.refl h0 []
  show Goes p e below s (Q_rmcopy Z da kd dg0 dg1 dg2 dg3 dg4 dg5 dg6 dg7 h0 n0) ({ frames := 1, cells := 1, slots := 1, locals := 32 } : Room).cells ({ frames := 1, cells := 1, slots := 1, locals := 32 } : Room).slots (s₁.setTop (entryFrame m #[(.ref da), (.int (1 : Int32))] 3))
  refine Goes.pre (fun t kt => castTop (ef_rmcopy m da) kt) ?_
  show Goes p e below s _ _ _ (s₁.setTop (mkF m 0 #[.val (.ref da), .val (.int (1 : Int32)), .unset] []))
  refine Goes.pre (fun t kt => XS.iloadN X0.here hx rfl (hb hby d13_0) rfl kt) ?_
  show Goes p e below s _ _ _ (s₁.setTop (mkF m 1 #[.val (.ref da), .val (.int (1 : Int32)), .unset] [(.int (1 : Int32))]))
  refine Goes.pre (fun t kt => XS.aloadN X0.here hx rfl (hb hby d13_1) rfl rfl kt) ?_
  show Goes p e below s _ _ _ (s₁.setTop (mkF m 2 #[.val (.ref da), .val (.int (1 : Int32)), .unset] [(.ref da), (.int (1 : Int32))]))
  obtain ⟨cl1, Ar1, aq1, aS1, aN1, aH1, aG1⟩ := pf_V_da
  have V1 : Arv Z h0 da kd .int (8 : Int32) [(.int dg0), (.int dg1), (.int dg2), (.int dg3), (.int dg4), (.int dg5), (.int dg6), (.int dg7)] (.int (0 : Int32)) := ⟨cl1, Ar1, aq1, aS1, aN1, aH1, aG1⟩
  refine Goes.pre (X0.arraylength hx (by rw [e0]; exact Ar1.1) (State.isArrayOf_alike hZ.alike Ar1.2.1) (g := (mkF m 2 #[.val (.ref da), .val (.int (1 : Int32)), .unset] [(.ref da), (.int (1 : Int32))])) rfl rfl (hb hby d13_2)) ?_
  rw [len_of aS1 aN1]
  show Goes p e below s _ _ _ (s₁.setTop (mkF m 3 #[.val (.ref da), .val (.int (1 : Int32)), .unset] [(.int (8 : Int32)), (.int (1 : Int32))]))
  refine Goes.pre (fun t kt => XS.icmpYes X0.here hx rfl (pc0 := 3) (pc' := 14) rfl (hb hby d13_3) rfl (Jvm.Free.XT.ii_ne_t ((by decide))) (by decide) (by decide) kt) ?_
  show Goes p e below s _ _ _ (s₁.setTop (mkF m 14 #[.val (.ref da), .val (.int (1 : Int32)), .unset] []))
  refine Goes.pre (fun t kt => XS.iloadN X0.here hx rfl (hb hby d13_14) rfl kt) ?_
  show Goes p e below s _ _ _ (s₁.setTop (mkF m 15 #[.val (.ref da), .val (.int (1 : Int32)), .unset] [(.int (1 : Int32))]))
  obtain ⟨T2, h2, k2, X2, e2, E2, A2, st2⟩ := newP X0 hx hZ (hw _ (List.mem_of_getElem? (i := 14) rfl)) e0 (g := (mkF m 15 #[.val (.ref da), .val (.int (1 : Int32)), .unset] [(.int (1 : Int32))])) rfl (hb hby d13_15) rfl (by decide) (cap := 1) (by decide) (by decide) (by decide) (by decide)
  obtain ⟨b2, g2⟩ : ∃ z, z = h0.size := ⟨_, rfl⟩
  rw [← g2] at A2 st2
  have ltda_2 : da < b2 := Nat.lt_of_lt_of_le V1.lt (Nat.le_of_eq g2.symm)
  have gg2 : n0 ≤ b2 := Nat.le_trans Z0 (Nat.le_of_eq g2.symm)
  have sz2 : h0.size ≤ b2 := Nat.le_trans K0.1 (Nat.le_of_eq g2.symm)
  have Z2 : n0 ≤ h2.size := Nat.le_trans Z0 E2.1
  have K2 := K0.ext E2
  refine Goes.pre st2 ?_
  have V2 : Arv Z h2 b2 k2 .int (1 : Int32) [(.int (0 : Int32))] (.int (0 : Int32)) := (Arv.new A2 (by decide)).pad (pad_rep [] (.int (0 : Int32)) 1)
  show Goes p e below s _ _ _ (T2.setTop (mkF m 17 #[.val (.ref da), .val (.int (1 : Int32)), .unset] [(.ref b2)]))
  refine Goes.pre (fun t kt => XS.astoreN X2.here hx rfl (hb hby d13_17) rfl rfl (l' := #[.val (.ref da), .val (.int (1 : Int32)), .val (.ref b2)]) rfl kt) ?_
  show Goes p e below s _ _ _ (T2.setTop (mkF m 18 #[.val (.ref da), .val (.int (1 : Int32)), .val (.ref b2)] []))
  refine Goes.pre (fun t kt => XS.aloadN X2.here hx rfl (hb hby d13_18) rfl rfl kt) ?_
  show Goes p e below s _ _ _ (T2.setTop (mkF m 19 #[.val (.ref da), .val (.int (1 : Int32)), .val (.ref b2)] [(.ref da)]))
  refine Goes.pre (fun t kt => XS.iconst X2.here hx rfl (hb hby d13_19) kt) ?_
  show Goes p e below s _ _ _ (T2.setTop (mkF m 20 #[.val (.ref da), .val (.int (1 : Int32)), .val (.ref b2)] [(.int (0 : Int32)), (.ref da)]))
  refine Goes.pre (fun t kt => XS.aloadN X2.here hx rfl (hb hby d13_20) rfl rfl kt) ?_
  show Goes p e below s _ _ _ (T2.setTop (mkF m 21 #[.val (.ref da), .val (.int (1 : Int32)), .val (.ref b2)] [(.ref b2), (.int (0 : Int32)), (.ref da)]))
  refine Goes.pre (fun t kt => XS.iconst X2.here hx rfl (hb hby d13_21) kt) ?_
  show Goes p e below s _ _ _ (T2.setTop (mkF m 22 #[.val (.ref da), .val (.int (1 : Int32)), .val (.ref b2)] [(.int (0 : Int32)), (.ref b2), (.int (0 : Int32)), (.ref da)]))
  refine Goes.pre (fun t kt => XS.aloadN X2.here hx rfl (hb hby d13_22) rfl rfl kt) ?_
  show Goes p e below s _ _ _ (T2.setTop (mkF m 23 #[.val (.ref da), .val (.int (1 : Int32)), .val (.ref b2)] [(.ref da), (.int (0 : Int32)), (.ref b2), (.int (0 : Int32)), (.ref da)]))
  have fc3 : Arv Z h2 da kd .int (8 : Int32) [(.int dg0), (.int dg1), (.int dg2), (.int dg3), (.int dg4), (.int dg5), (.int dg6), (.int dg7)] (.int (0 : Int32)) := (V1.ext E2)
  obtain ⟨cl4, Ar4, aq4, aS4, aN4, aH4, aG4⟩ := fc3
  have V4 : Arv Z h2 da kd .int (8 : Int32) [(.int dg0), (.int dg1), (.int dg2), (.int dg3), (.int dg4), (.int dg5), (.int dg6), (.int dg7)] (.int (0 : Int32)) := ⟨cl4, Ar4, aq4, aS4, aN4, aH4, aG4⟩
  refine Goes.pre (X2.arraylength hx (by rw [e2]; exact Ar4.1) (State.isArrayOf_alike hZ.alike Ar4.2.1) (g := (mkF m 23 #[.val (.ref da), .val (.int (1 : Int32)), .val (.ref b2)] [(.ref da), (.int (0 : Int32)), (.ref b2), (.int (0 : Int32)), (.ref da)])) rfl rfl (hb hby d13_23)) ?_
  rw [len_of aS4 aN4]
  show Goes p e below s _ _ _ (T2.setTop (mkF m 24 #[.val (.ref da), .val (.int (1 : Int32)), .val (.ref b2)] [(.int (8 : Int32)), (.int (0 : Int32)), (.ref b2), (.int (0 : Int32)), (.ref da)]))
  refine Goes.pre (fun t kt => XS.iloadN X2.here hx rfl (hb hby d13_24) rfl kt) ?_
  show Goes p e below s _ _ _ (T2.setTop (mkF m 25 #[.val (.ref da), .val (.int (1 : Int32)), .val (.ref b2)] [(.int (1 : Int32)), (.int (8 : Int32)), (.int (0 : Int32)), (.ref b2), (.int (0 : Int32)), (.ref da)]))
  obtain ⟨_, _, ⟨T5, L5, k5, n5⟩, -, X5, ⟨Lc5, hQ5, l5, y5, z5⟩, st5⟩ := Jvm.LawKit.callS X2 hx (y := (⟨"java/lang/Math", "min", "(II)I"⟩ : MethodName)) hown (mvT hZ (hw _ (List.mem_of_getElem? (i := 78) rfl))) (mvT hZ (hw _ (List.mem_of_getElem? (i := 79) rfl))) (mvT hZ (hw _ (List.mem_of_getElem? (i := 3) rfl))) (mvT hZ (hw _ (List.mem_of_getElem? (i := 80) rfl))) (by decide) (backOf (W := 4) (rmmin l Z a0 hw [] (8 : Int32) (1 : Int32) h2 n0 Z2 ) hZ (hw _ (List.mem_of_getElem? (i := 80) rfl)) (hw _ (List.mem_of_getElem? (i := 3) rfl)) (by decide) (by decide)) (g := (mkF m 25 #[.val (.ref da), .val (.int (1 : Int32)), .val (.ref b2)] [(.int (1 : Int32)), (.int (8 : Int32)), (.int (0 : Int32)), (.ref b2), (.int (0 : Int32)), (.ref da)])) rfl (by rw [hml]; rfl) (argsL := [(.int (8 : Int32)), (.int (1 : Int32))]) (rest := [(.int (0 : Int32)), (.ref b2), (.int (0 : Int32)), (.ref da)]) (lenOf pd_8 rfl) rfl (by show 2 * 0 + _ ≤ _; exact Nat.le_of_eq rfl) (hb hby d13_25) (fun _ _ => ⟨rfl, e2, (by decide : 1 + 0 ≤ _), (by decide : 1 + 0 ≤ _)⟩)
  dsimp only [Pt.U, Pt.locs, Pt.cells, Pt.slots] at X5 l5 y5 z5 st5 hQ5
  subst l5 y5 z5
  obtain ⟨rfl, Nq5, eq5⟩ := hQ5
  refine Goes.pre st5 ?_
  have N5 := Fr.app N0 Nq5
  show Goes p e below s _ _ _ (T5.setTop (mkF m 28 #[.val (.ref da), .val (.int (1 : Int32)), .val (.ref b2)] [(.int (own_min (8 : Int32) (1 : Int32))), (.int (0 : Int32)), (.ref b2), (.int (0 : Int32)), (.ref da)]))
  rw [show own_min (8 : Int32) (1 : Int32) = (1 : Int32) from by decide]
  show Goes p e below s _ _ _ (T5.setTop (mkF m 28 #[.val (.ref da), .val (.int (1 : Int32)), .val (.ref b2)] [(.int (1 : Int32)), (.int (0 : Int32)), (.ref b2), (.int (0 : Int32)), (.ref da)]))
  obtain ⟨T6, h6, Lc6, X6, e6, N6, Kq6, Aq6, st6⟩ := cpA X5 hx hZ hown (hw _ (List.mem_of_getElem? (i := 81) rfl)) (hw _ (List.mem_of_getElem? (i := 84) rfl)) (hw _ (List.mem_of_getElem? (i := 82) rfl)) (hw _ (List.mem_of_getElem? (i := 83) rfl)) eq5 (sp := (0 : Int32)) (dp := (0 : Int32)) (nn := (1 : Int32)) (us := [(.int dg0)]) V4 V2 (Or.inl ⟨rfl, rfl⟩) (by decide) (by decide) (by decide) (by decide) (by decide) rfl (by decide) N5 gg2 (g := (mkF m 28 #[.val (.ref da), .val (.int (1 : Int32)), .val (.ref b2)] [(.int (1 : Int32)), (.int (0 : Int32)), (.ref b2), (.int (0 : Int32)), (.ref da)])) rfl (by rw [hml]; rfl) rfl (hb hby d13_28) (by decide) (W := 0) (by show 2 * 0 + _ ≤ _; exact Nat.le_of_eq rfl) (by decide)
  refine Goes.pre st6 ?_
  have Z6 : n0 ≤ h6.size := Nat.le_trans Z2 Kq6.1
  have K6 := K2.trans Kq6 (allS (P := fun x => x ∈ [] ∨ h0.size ≤ x) (Or.inr sz2) all0)
  have V6 : Arv Z h6 b2 k2 .int (1 : Int32) [(.int dg0)] (.int (0 : Int32)) := Aq6
  show Goes p e below s _ _ _ (T6.setTop (mkF m 31 #[.val (.ref da), .val (.int (1 : Int32)), .val (.ref b2)] []))
  refine Goes.pre (fun t kt => XS.aloadN X6.here hx rfl (hb hby d13_31) rfl rfl kt) ?_
  show Goes p e below s _ _ _ (T6.setTop (mkF m 32 #[.val (.ref da), .val (.int (1 : Int32)), .val (.ref b2)] [(.ref b2)]))
  refine Goes.ret X6 (some (.ref b2)) (fun h => by rw [Bd.returns] at h; cases h) (BodyLoose.notSynchronized Bd) (by decide) (by decide) (fun fs hr => retOut X6 hx (t := (.array .int)) Bd.returns rfl (Or.inr (Or.inr (Or.inr (Or.inr ⟨rfl, rfl, rfl⟩)))) (hb hby d13_32) hr) ?_
  show Q_rmcopy Z da kd dg0 dg1 dg2 dg3 dg4 dg5 dg6 dg7 h0 n0 _ T6.heap _
  rw [e6]
  exact ⟨b2, k2, rfl, N6, K6, sz2, gg2, V6⟩
theorem d12_0 : decode prog_56_method_5_code 0 = .ok (.aload_n 0, 1) := by decide +kernel
theorem d12_1 : decode prog_56_method_5_code 1 = .ok (.getfield 23, 3) := by decide +kernel
theorem d12_4 : decode prog_56_method_5_code 4 = .ok (.aload_n 0, 1) := by decide +kernel
theorem d12_5 : decode prog_56_method_5_code 5 = .ok (.getfield 51, 3) := by decide +kernel
theorem d12_8 : decode prog_56_method_5_code 8 = .ok (.invokestatic 57, 3) := by decide +kernel
theorem pd_9 : parseMethodDescriptor "([II)[I" = some ⟨[(.array .int), .int], some (.array .int)⟩ := by decide +kernel
theorem d12_11 : decode prog_56_method_5_code 11 = .ok (.areturn, 1) := by decide +kernel
def Q_rmdocs (Z : State) (a1 : Addr) (da : Addr) (gg : (Int32 → Int32)) (h0 : Heap) (n0 : Nat) (v : Option Value) (h : Heap) (L : List Loc) : Prop := ∃ r : Addr, ∃ kr : ClassId, v = some (.ref r) ∧ Fr n0 L ∧ Keep h0 h [] ∧ (h0.size ≤ r) ∧ (n0 ≤ r) ∧ (Arv Z h r kr .int (1 : Int32) [(.int (gg (0 : Int32)))] (.int (0 : Int32)))
theorem ef_rmdocs (m : MethodId) (a1 : Addr) : entryFrame m #[(.ref a1)] 1 = mkF m 0 #[.val (.ref a1)] [] := by first | (simp [entryFrame, mkF, argsToLocals, Value.category]; done) | rfl
set_option maxRecDepth 65536 in
set_option maxHeartbeats 40000000 in
theorem rmdocs (l : Launch) (Z : State) (a0 : Array Value) (hw : ∀ d ∈ tables_1, d.before a0 Z = true) (ws : List Jvm.Cond) (a1 : Addr) (da : Addr) (gg : (Int32 → Int32)) (h0 : Heap) (n0 : Nat) (Z0 : n0 ≤ h0.size) (pf_F_a1_com_example_nosograph_nosograph_ranking_DocumentSums_documents : Fld Z h0 a1 "com/example/nosograph/nosograph/ranking/DocumentSums" "documents" "[I" (.ref da)) (pf_F_a1_com_example_nosograph_nosograph_ranking_DocumentSums_count : Fld Z h0 a1 "com/example/nosograph/nosograph/ranking/DocumentSums" "count" "I" (.int (1 : Int32))) (pf_I_da : OwnI Z h0 da (8 : Int32) gg) :
    MetFree l (⟨"com/example/nosograph/nosograph/ranking/DocumentSums", "documents", "()[I"⟩ : MethodName) (head1 (Jvm.Cond.code (⟨"com/example/nosograph/nosograph/ranking/DocumentSums", "documents", "()[I"⟩ : MethodName) prog_56_method_5_code 1 (some (.array .int)) :: ws) ({ frames := 2, cells := 1, slots := 1, locals := 46 } : Room)) (fun a U => a = #[(.ref a1)] ∧ Z.Warmed39 U.vm ∧ U.heap = h0) (fun _ _ _ _ _ => True) (fun _ U o U' => ∃ v L, o = .returned v ∧ Q_rmdocs Z a1 da gg h0 n0 v U'.heap L ∧ FrameEnd U o U' L ({ frames := 2, cells := 1, slots := 1, locals := 46 } : Room).cells ({ frames := 2, cells := 1, slots := 1, locals := 46 } : Room).slots) := by
  refine MetFree.of_bodySF (plainFor_of_name pn_4) hisR ?_
  intro p e s m args below meth c s₁ Bd hml0 hP hK
  obtain ⟨rfl, hZ, hh⟩ := hP
  have hx := Bd.exec
  have hby := Bd.bytes
  have hml : c.maxLocals = 1 := hml0
  have hown : s.vm.findClass "com/example/nosograph/nosograph/ranking/DocumentSums" = some m.cls := findClass_of_methodNamed Bd.named
  have hnm := (name_of_methodNamed Bd.named Bd.method).1
  have X0 : Stand p l e ({ frames := 2, cells := 1, slots := 1, locals := 46 } : Room) s m #[(.ref a1)] below meth c s₁ [] 0 0 := Stand.of_body Bd
  have e0 : s₁.heap = h0 := by rw [← hh, Bd.state]; rfl
  have N0 := Fr.nil n0
  have K0 := Keep.refl h0 []
  show Goes p e below s (Q_rmdocs Z a1 da gg h0 n0) ({ frames := 2, cells := 1, slots := 1, locals := 46 } : Room).cells ({ frames := 2, cells := 1, slots := 1, locals := 46 } : Room).slots (s₁.setTop (entryFrame m #[(.ref a1)] 1))
  refine Goes.pre (fun t kt => castTop (ef_rmdocs m a1) kt) ?_
  show Goes p e below s _ _ _ (s₁.setTop (mkF m 0 #[.val (.ref a1)] []))
  refine Goes.pre (fun t kt => XS.aloadN X0.here hx rfl (hb hby d12_0) rfl rfl kt) ?_
  show Goes p e below s _ _ _ (s₁.setTop (mkF m 1 #[.val (.ref a1)] [(.ref a1)]))
  obtain ⟨T1, X1, e1, st1⟩ := getF X0 hx hZ hown (host := "") (Or.inl (hw _ (List.mem_of_getElem? (i := 24) rfl))) Via.refl e0 pf_F_a1_com_example_nosograph_nosograph_ranking_DocumentSums_documents (g := (mkF m 1 #[.val (.ref a1)] [(.ref a1)])) rfl rfl (hb hby d12_1)
  refine Goes.pre st1 ?_
  show Goes p e below s _ _ _ (T1.setTop (mkF m 4 #[.val (.ref a1)] [(.ref da)]))
  refine Goes.pre (fun t kt => XS.aloadN X1.here hx rfl (hb hby d12_4) rfl rfl kt) ?_
  show Goes p e below s _ _ _ (T1.setTop (mkF m 5 #[.val (.ref a1)] [(.ref a1), (.ref da)]))
  obtain ⟨T2, X2, e2, st2⟩ := getF X1 hx hZ hown (host := "") (Or.inl (hw _ (List.mem_of_getElem? (i := 55) rfl))) Via.refl e1 pf_F_a1_com_example_nosograph_nosograph_ranking_DocumentSums_count (g := (mkF m 5 #[.val (.ref a1)] [(.ref a1), (.ref da)])) rfl rfl (hb hby d12_5)
  refine Goes.pre st2 ?_
  show Goes p e below s _ _ _ (T2.setTop (mkF m 8 #[.val (.ref a1)] [(.int (1 : Int32)), (.ref da)]))
  obtain ⟨kd3, Vd3⟩ := OwnI.arv pf_I_da
  obtain ⟨_, _, ⟨T4, L4, k4, n4⟩, -, X4, ⟨Lc4, hQ4, l4, y4, z4⟩, st4⟩ := Jvm.LawKit.callS X2 hx (y := (⟨"java/util/Arrays", "copyOf", "([II)[I"⟩ : MethodName)) hown (mvT hZ (hw _ (List.mem_of_getElem? (i := 75) rfl))) (mvT hZ (hw _ (List.mem_of_getElem? (i := 76) rfl))) (mvT hZ (hw _ (List.mem_of_getElem? (i := 35) rfl))) (mvT hZ (hw _ (List.mem_of_getElem? (i := 77) rfl))) (by decide) (backOf (W := 0) (rmcopy l Z a0 hw [] da kd3 (gg (0 : Int32)) (gg (1 : Int32)) (gg (2 : Int32)) (gg (3 : Int32)) (gg (4 : Int32)) (gg (5 : Int32)) (gg (6 : Int32)) (gg (7 : Int32)) h0 n0 Z0 Vd3) hZ (hw _ (List.mem_of_getElem? (i := 77) rfl)) (hw _ (List.mem_of_getElem? (i := 35) rfl)) (by decide) (by decide)) (g := (mkF m 8 #[.val (.ref a1)] [(.int (1 : Int32)), (.ref da)])) rfl (by rw [hml]; rfl) (argsL := [(.ref da), (.int (1 : Int32))]) (rest := []) (lenOf pd_9 rfl) rfl (by show 2 * 0 + _ ≤ _; exact Nat.le_of_eq rfl) (hb hby d12_8) (fun _ _ => ⟨rfl, e2, (by decide : 0 + 1 ≤ _), (by decide : 0 + 1 ≤ _)⟩)
  dsimp only [Pt.U, Pt.locs, Pt.cells, Pt.slots] at X4 l4 y4 z4 st4 hQ4
  subst l4 y4 z4
  obtain ⟨r_4, kr_4, rfl, Nq4, Kq4, pq4_0, pq4_1, pq4_2⟩ := hQ4
  refine Goes.pre st4 ?_
  have N4 := Fr.app N0 Nq4
  obtain ⟨h4, e4⟩ : ∃ z, T4.heap = z := ⟨_, rfl⟩
  rw [e4] at Kq4 pq4_2
  have ltda_4_r_4 : da < r_4 := Nat.lt_of_lt_of_le Vd3.lt pq4_0
  have szq4_r_4 : h0.size ≤ r_4 := Nat.le_trans K0.1 pq4_0
  have Z4 : n0 ≤ h4.size := Nat.le_trans Z0 Kq4.1
  have K4 := K0.trans Kq4 all0
  show Goes p e below s _ _ _ (T4.setTop (mkF m 11 #[.val (.ref a1)] [(.ref r_4)]))
  refine Goes.ret X4 (some (.ref r_4)) (fun h => by rw [Bd.returns] at h; cases h) (BodyLoose.notSynchronized Bd) (by decide) (by decide) (fun fs hr => retOut X4 hx (t := (.array .int)) Bd.returns rfl (Or.inr (Or.inr (Or.inr (Or.inr ⟨rfl, rfl, rfl⟩)))) (hb hby d12_11) hr) ?_
  show Q_rmdocs Z a1 da gg h0 n0 _ T4.heap _
  rw [e4]
  exact ⟨r_4, kr_4, rfl, N4, K4, szq4_r_4, pq4_1, pq4_2⟩

theorem own_max1 (x : Int32) : 1 ≤ (own_max (1 : Int32) x).toInt := by
  unfold own_max
  have k : (1 : Int32).toInt = 1 := by decide
  split
  · rename_i h; rw [Int32.lt_iff_toInt_lt] at h; omega
  · omega
theorem own_nz {n : Int32} (h : 1 ≤ n.toInt) : ¬ n = (0 : Int32) := fun q => by rw [q] at h; exact absurd h (by decide)
theorem own_mod {n : Int32} (h : 1 ≤ n.toInt) (x : Int32) : ¬ ((x &&& (2147483647 : Int32)) % n) < 0 ∧ ((x &&& (2147483647 : Int32)) % n) < n := by
  have a := c_and x (2147483647 : Int32) (by decide)
  have b := (c_iremV (x &&& (2147483647 : Int32)) n).1 a.1 (by omega)
  have k0 : (0 : Int32).toInt = 0 := by decide
  rw [Int32.lt_iff_toInt_lt, Int32.lt_iff_toInt_lt, k0]
  omega
theorem pd_10 : parseMethodDescriptor "(I)V" = some ⟨[.int], none⟩ := by decide +kernel
theorem pd_11 : parseMethodDescriptor "(ID)V" = some ⟨[.int, .double], none⟩ := by decide +kernel
theorem pd_12 : parseMethodDescriptor "()V" = some ⟨[], none⟩ := by decide +kernel
theorem pd_13 : parseMethodDescriptor "(I)Z" = some ⟨[.int], some .boolean⟩ := by decide +kernel
theorem pd_14 : parseMethodDescriptor "()[I" = some ⟨[], some (.array .int)⟩ := by decide +kernel
theorem pd_15 : parseMethodDescriptor "(I)D" = some ⟨[.int], some .double⟩ := by decide +kernel
theorem pn_16 : plainName "com/example/nosograph/nosograph/ranking/DocumentSumsClearPinLaw" = true := by first | (simp [plainName, overriddenIn]; done) | decide +kernel
def Q_rm0 (Z : State) (p1 : Int32) (p2 : Int32) (p3 : Int32) (p4 : Int32) (h0 : Heap) (n0 : Nat) (v : Option Value) (h : Heap) (L : List Loc) : Prop := v = some (.int (1 : Int32)) ∧ Fr n0 L
theorem ef_rm0 (m : MethodId) (p1 : Int32) (p2 : Int32) (p3 : Int32) (p4 : Int32) : entryFrame m #[(.int p1), (.int p2), (.int p3), (.int p4)] maxLocals = mkF m 0 #[.val (.int p1), .val (.int p2), .val (.int p3), .val (.int p4), .unset, .unset, .unset, .unset, .unset, .unset, .unset, .unset, .unset, .unset] [] := by first | (simp [entryFrame, mkF, argsToLocals, Value.category, maxLocals]; done) | rfl
set_option maxRecDepth 65536 in
set_option maxHeartbeats 40000000 in
theorem rm0 (l : Launch) (Z : State) (a0 : Array Value) (hw : ∀ d ∈ tables_1, d.before a0 Z = true) (ws : List Jvm.Cond) (p1 : Int32) (p2 : Int32) (p3 : Int32) (p4 : Int32) (h0 : Heap) (n0 : Nat) (Z0 : n0 ≤ h0.size) :
    MetFree l x (head1 (Jvm.Cond.code x code maxLocals ret :: ws) room_1) (fun a U => a = #[(.int p1), (.int p2), (.int p3), (.int p4)] ∧ Z.Warmed39 U.vm ∧ U.heap = h0) (fun _ _ _ _ _ => True) (fun _ U o U' => ∃ v L, o = .returned v ∧ Q_rm0 Z p1 p2 p3 p4 h0 n0 v U'.heap L ∧ FrameEnd U o U' L room_1.cells room_1.slots) := by
  refine MetFree.of_bodySF (plainFor_of_name pn_16) hisR ?_
  intro p e s m args below meth c s₁ Bd hml0 hP hK
  obtain ⟨rfl, hZ, hh⟩ := hP
  have hx := Bd.exec
  have hby := Bd.bytes
  have hml : c.maxLocals = 14 := hml0
  have hown : s.vm.findClass "com/example/nosograph/nosograph/ranking/DocumentSumsClearPinLaw" = some m.cls := findClass_of_methodNamed Bd.named
  have hnm := (name_of_methodNamed Bd.named Bd.method).1
  have X0 : Stand p l e room_1 s m #[(.int p1), (.int p2), (.int p3), (.int p4)] below meth c s₁ [] 0 0 := Stand.of_body Bd
  have e0 : s₁.heap = h0 := by rw [← hh, Bd.state]; rfl
  have N0 := Fr.nil n0
  show Goes p e below s (Q_rm0 Z p1 p2 p3 p4 h0 n0) room_1.cells room_1.slots (s₁.setTop (entryFrame m #[(.int p1), (.int p2), (.int p3), (.int p4)] maxLocals))
  refine Goes.pre (fun t kt => castTop (ef_rm0 m p1 p2 p3 p4) kt) ?_
  show Goes p e below s _ _ _ (s₁.setTop (mkF m 0 #[.val (.int p1), .val (.int p2), .val (.int p3), .val (.int p4), .unset, .unset, .unset, .unset, .unset, .unset, .unset, .unset, .unset, .unset] []))
  refine Goes.pre (fun t kt => XS.iconst X0.here hx rfl (hb hby at_0) kt) ?_
  show Goes p e below s _ _ _ (s₁.setTop (mkF m 1 #[.val (.int p1), .val (.int p2), .val (.int p3), .val (.int p4), .unset, .unset, .unset, .unset, .unset, .unset, .unset, .unset, .unset, .unset] [(.int (1 : Int32))]))
  refine Goes.pre (fun t kt => XS.iloadN X0.here hx rfl (hb hby at_1) rfl kt) ?_
  show Goes p e below s _ _ _ (s₁.setTop (mkF m 2 #[.val (.int p1), .val (.int p2), .val (.int p3), .val (.int p4), .unset, .unset, .unset, .unset, .unset, .unset, .unset, .unset, .unset, .unset] [(.int p1), (.int (1 : Int32))]))
  refine Goes.pre (X0.ldcInt hx hown (mvT hZ (hw _ (List.mem_of_getElem? (i := 0) rfl))) (g := (mkF m 2 #[.val (.int p1), .val (.int p2), .val (.int p3), .val (.int p4), .unset, .unset, .unset, .unset, .unset, .unset, .unset, .unset, .unset, .unset] [(.int p1), (.int (1 : Int32))])) rfl (hb hby at_2)) ?_
  show Goes p e below s _ _ _ (s₁.setTop (mkF m 4 #[.val (.int p1), .val (.int p2), .val (.int p3), .val (.int p4), .unset, .unset, .unset, .unset, .unset, .unset, .unset, .unset, .unset, .unset] [(.int (2147483647 : Int32)), (.int p1), (.int (1 : Int32))]))
  refine Goes.pre (fun t kt => XS.iand X0.here hx rfl (hb hby at_4) rfl kt) ?_
  show Goes p e below s _ _ _ (s₁.setTop (mkF m 5 #[.val (.int p1), .val (.int p2), .val (.int p3), .val (.int p4), .unset, .unset, .unset, .unset, .unset, .unset, .unset, .unset, .unset, .unset] [(.int (p1 &&& (2147483647 : Int32))), (.int (1 : Int32))]))
  obtain ⟨_, _, ⟨T1, L1, k1, n1⟩, -, X1, ⟨Lc1, hQ1, l1, y1, z1⟩, st1⟩ := Jvm.LawKit.callS X0 hx (y := (⟨"java/lang/Math", "max", "(II)I"⟩ : MethodName)) hown (mvT hZ (hw _ (List.mem_of_getElem? (i := 1) rfl))) (mvT hZ (hw _ (List.mem_of_getElem? (i := 2) rfl))) (mvT hZ (hw _ (List.mem_of_getElem? (i := 3) rfl))) (mvT hZ (hw _ (List.mem_of_getElem? (i := 4) rfl))) (by decide) (backOf (W := 0) (rmmax l Z a0 hw [] (1 : Int32) (p1 &&& (2147483647 : Int32)) h0 n0 Z0 ) hZ (hw _ (List.mem_of_getElem? (i := 4) rfl)) (hw _ (List.mem_of_getElem? (i := 3) rfl)) (by decide) (by decide)) (g := (mkF m 5 #[.val (.int p1), .val (.int p2), .val (.int p3), .val (.int p4), .unset, .unset, .unset, .unset, .unset, .unset, .unset, .unset, .unset, .unset] [(.int (p1 &&& (2147483647 : Int32))), (.int (1 : Int32))])) rfl (by rw [hml]; rfl) (argsL := [(.int (1 : Int32)), (.int (p1 &&& (2147483647 : Int32)))]) (rest := []) (lenOf pd_8 rfl) rfl (by show 2 * 0 + _ ≤ _; exact Nat.le_of_eq rfl) (hb hby at_5) (fun _ _ => ⟨rfl, e0, (by decide : 0 + 0 ≤ _), (by decide : 0 + 0 ≤ _)⟩)
  dsimp only [Pt.U, Pt.locs, Pt.cells, Pt.slots] at X1 l1 y1 z1 st1 hQ1
  subst l1 y1 z1
  obtain ⟨rfl, Nq1, eq1⟩ := hQ1
  refine Goes.pre st1 ?_
  have N1 := Fr.app N0 Nq1
  show Goes p e below s _ _ _ (T1.setTop (mkF m 8 #[.val (.int p1), .val (.int p2), .val (.int p3), .val (.int p4), .unset, .unset, .unset, .unset, .unset, .unset, .unset, .unset, .unset, .unset] [(.int (own_max (1 : Int32) (p1 &&& (2147483647 : Int32))))]))
  refine Goes.pre (fun t kt => XS.istore X1.here hx rfl (hb hby at_8) rfl (l' := #[.val (.int p1), .val (.int p2), .val (.int p3), .val (.int p4), .val (.int (own_max (1 : Int32) (p1 &&& (2147483647 : Int32)))), .unset, .unset, .unset, .unset, .unset, .unset, .unset, .unset, .unset]) rfl kt) ?_
  show Goes p e below s _ _ _ (T1.setTop (mkF m 10 #[.val (.int p1), .val (.int p2), .val (.int p3), .val (.int p4), .val (.int (own_max (1 : Int32) (p1 &&& (2147483647 : Int32)))), .unset, .unset, .unset, .unset, .unset, .unset, .unset, .unset, .unset] []))
  suffices J2 : ∀ (nn : Int32), (1 ≤ nn.toInt) → Goes p e below s (Q_rm0 Z p1 p2 p3 p4 h0 n0) room_1.cells room_1.slots (T1.setTop (mkF m 10 #[.val (.int p1), .val (.int p2), .val (.int p3), .val (.int p4), .val (.int nn), .unset, .unset, .unset, .unset, .unset, .unset, .unset, .unset, .unset] [])) from J2 ((own_max (1 : Int32) (p1 &&& (2147483647 : Int32)))) (own_max1 _)
  intro nn hnn
  refine Goes.pre (fun t kt => XS.iloadN X1.here hx rfl (hb hby at_10) rfl kt) ?_
  show Goes p e below s _ _ _ (T1.setTop (mkF m 11 #[.val (.int p1), .val (.int p2), .val (.int p3), .val (.int p4), .val (.int nn), .unset, .unset, .unset, .unset, .unset, .unset, .unset, .unset, .unset] [(.int p2)]))
  refine Goes.pre (X1.ldcInt hx hown (mvT hZ (hw _ (List.mem_of_getElem? (i := 0) rfl))) (g := (mkF m 11 #[.val (.int p1), .val (.int p2), .val (.int p3), .val (.int p4), .val (.int nn), .unset, .unset, .unset, .unset, .unset, .unset, .unset, .unset, .unset] [(.int p2)])) rfl (hb hby at_11)) ?_
  show Goes p e below s _ _ _ (T1.setTop (mkF m 13 #[.val (.int p1), .val (.int p2), .val (.int p3), .val (.int p4), .val (.int nn), .unset, .unset, .unset, .unset, .unset, .unset, .unset, .unset, .unset] [(.int (2147483647 : Int32)), (.int p2)]))
  refine Goes.pre (fun t kt => XS.iand X1.here hx rfl (hb hby at_13) rfl kt) ?_
  show Goes p e below s _ _ _ (T1.setTop (mkF m 14 #[.val (.int p1), .val (.int p2), .val (.int p3), .val (.int p4), .val (.int nn), .unset, .unset, .unset, .unset, .unset, .unset, .unset, .unset, .unset] [(.int (p2 &&& (2147483647 : Int32)))]))
  refine Goes.pre (fun t kt => XS.iload X1.here hx rfl (hb hby at_14) rfl kt) ?_
  show Goes p e below s _ _ _ (T1.setTop (mkF m 16 #[.val (.int p1), .val (.int p2), .val (.int p3), .val (.int p4), .val (.int nn), .unset, .unset, .unset, .unset, .unset, .unset, .unset, .unset, .unset] [(.int nn), (.int (p2 &&& (2147483647 : Int32)))]))
  refine Goes.pre (fun t kt => Jvm.RoadKit.iremM X1 hx rfl (hb hby at_16) rfl (own_nz hnn) kt) ?_
  show Goes p e below s _ _ _ (T1.setTop (mkF m 17 #[.val (.int p1), .val (.int p2), .val (.int p3), .val (.int p4), .val (.int nn), .unset, .unset, .unset, .unset, .unset, .unset, .unset, .unset, .unset] [(.int ((p2 &&& (2147483647 : Int32)) % nn))]))
  refine Goes.pre (fun t kt => XS.istore X1.here hx rfl (hb hby at_17) rfl (l' := #[.val (.int p1), .val (.int p2), .val (.int p3), .val (.int p4), .val (.int nn), .val (.int ((p2 &&& (2147483647 : Int32)) % nn)), .unset, .unset, .unset, .unset, .unset, .unset, .unset, .unset]) rfl kt) ?_
  show Goes p e below s _ _ _ (T1.setTop (mkF m 19 #[.val (.int p1), .val (.int p2), .val (.int p3), .val (.int p4), .val (.int nn), .val (.int ((p2 &&& (2147483647 : Int32)) % nn)), .unset, .unset, .unset, .unset, .unset, .unset, .unset, .unset] []))
  refine Goes.pre (fun t kt => XS.iloadN X1.here hx rfl (hb hby at_19) rfl kt) ?_
  show Goes p e below s _ _ _ (T1.setTop (mkF m 20 #[.val (.int p1), .val (.int p2), .val (.int p3), .val (.int p4), .val (.int nn), .val (.int ((p2 &&& (2147483647 : Int32)) % nn)), .unset, .unset, .unset, .unset, .unset, .unset, .unset, .unset] [(.int p3)]))
  refine Goes.pre (X1.ldcInt hx hown (mvT hZ (hw _ (List.mem_of_getElem? (i := 0) rfl))) (g := (mkF m 20 #[.val (.int p1), .val (.int p2), .val (.int p3), .val (.int p4), .val (.int nn), .val (.int ((p2 &&& (2147483647 : Int32)) % nn)), .unset, .unset, .unset, .unset, .unset, .unset, .unset, .unset] [(.int p3)])) rfl (hb hby at_20)) ?_
  show Goes p e below s _ _ _ (T1.setTop (mkF m 22 #[.val (.int p1), .val (.int p2), .val (.int p3), .val (.int p4), .val (.int nn), .val (.int ((p2 &&& (2147483647 : Int32)) % nn)), .unset, .unset, .unset, .unset, .unset, .unset, .unset, .unset] [(.int (2147483647 : Int32)), (.int p3)]))
  refine Goes.pre (fun t kt => XS.iand X1.here hx rfl (hb hby at_22) rfl kt) ?_
  show Goes p e below s _ _ _ (T1.setTop (mkF m 23 #[.val (.int p1), .val (.int p2), .val (.int p3), .val (.int p4), .val (.int nn), .val (.int ((p2 &&& (2147483647 : Int32)) % nn)), .unset, .unset, .unset, .unset, .unset, .unset, .unset, .unset] [(.int (p3 &&& (2147483647 : Int32)))]))
  refine Goes.pre (fun t kt => XS.iload X1.here hx rfl (hb hby at_23) rfl kt) ?_
  show Goes p e below s _ _ _ (T1.setTop (mkF m 25 #[.val (.int p1), .val (.int p2), .val (.int p3), .val (.int p4), .val (.int nn), .val (.int ((p2 &&& (2147483647 : Int32)) % nn)), .unset, .unset, .unset, .unset, .unset, .unset, .unset, .unset] [(.int nn), (.int (p3 &&& (2147483647 : Int32)))]))
  refine Goes.pre (fun t kt => Jvm.RoadKit.iremM X1 hx rfl (hb hby at_25) rfl (own_nz hnn) kt) ?_
  show Goes p e below s _ _ _ (T1.setTop (mkF m 26 #[.val (.int p1), .val (.int p2), .val (.int p3), .val (.int p4), .val (.int nn), .val (.int ((p2 &&& (2147483647 : Int32)) % nn)), .unset, .unset, .unset, .unset, .unset, .unset, .unset, .unset] [(.int ((p3 &&& (2147483647 : Int32)) % nn))]))
  refine Goes.pre (fun t kt => XS.istore X1.here hx rfl (hb hby at_26) rfl (l' := #[.val (.int p1), .val (.int p2), .val (.int p3), .val (.int p4), .val (.int nn), .val (.int ((p2 &&& (2147483647 : Int32)) % nn)), .val (.int ((p3 &&& (2147483647 : Int32)) % nn)), .unset, .unset, .unset, .unset, .unset, .unset, .unset]) rfl kt) ?_
  show Goes p e below s _ _ _ (T1.setTop (mkF m 28 #[.val (.int p1), .val (.int p2), .val (.int p3), .val (.int p4), .val (.int nn), .val (.int ((p2 &&& (2147483647 : Int32)) % nn)), .val (.int ((p3 &&& (2147483647 : Int32)) % nn)), .unset, .unset, .unset, .unset, .unset, .unset, .unset] []))
  refine Goes.pre (fun t kt => XS.iloadN X1.here hx rfl (hb hby at_28) rfl kt) ?_
  show Goes p e below s _ _ _ (T1.setTop (mkF m 29 #[.val (.int p1), .val (.int p2), .val (.int p3), .val (.int p4), .val (.int nn), .val (.int ((p2 &&& (2147483647 : Int32)) % nn)), .val (.int ((p3 &&& (2147483647 : Int32)) % nn)), .unset, .unset, .unset, .unset, .unset, .unset, .unset] [(.int p4)]))
  refine Goes.pre (X1.ldcInt hx hown (mvT hZ (hw _ (List.mem_of_getElem? (i := 0) rfl))) (g := (mkF m 29 #[.val (.int p1), .val (.int p2), .val (.int p3), .val (.int p4), .val (.int nn), .val (.int ((p2 &&& (2147483647 : Int32)) % nn)), .val (.int ((p3 &&& (2147483647 : Int32)) % nn)), .unset, .unset, .unset, .unset, .unset, .unset, .unset] [(.int p4)])) rfl (hb hby at_29)) ?_
  show Goes p e below s _ _ _ (T1.setTop (mkF m 31 #[.val (.int p1), .val (.int p2), .val (.int p3), .val (.int p4), .val (.int nn), .val (.int ((p2 &&& (2147483647 : Int32)) % nn)), .val (.int ((p3 &&& (2147483647 : Int32)) % nn)), .unset, .unset, .unset, .unset, .unset, .unset, .unset] [(.int (2147483647 : Int32)), (.int p4)]))
  refine Goes.pre (fun t kt => XS.iand X1.here hx rfl (hb hby at_31) rfl kt) ?_
  show Goes p e below s _ _ _ (T1.setTop (mkF m 32 #[.val (.int p1), .val (.int p2), .val (.int p3), .val (.int p4), .val (.int nn), .val (.int ((p2 &&& (2147483647 : Int32)) % nn)), .val (.int ((p3 &&& (2147483647 : Int32)) % nn)), .unset, .unset, .unset, .unset, .unset, .unset, .unset] [(.int (p4 &&& (2147483647 : Int32)))]))
  refine Goes.pre (fun t kt => XS.iload X1.here hx rfl (hb hby at_32) rfl kt) ?_
  show Goes p e below s _ _ _ (T1.setTop (mkF m 34 #[.val (.int p1), .val (.int p2), .val (.int p3), .val (.int p4), .val (.int nn), .val (.int ((p2 &&& (2147483647 : Int32)) % nn)), .val (.int ((p3 &&& (2147483647 : Int32)) % nn)), .unset, .unset, .unset, .unset, .unset, .unset, .unset] [(.int nn), (.int (p4 &&& (2147483647 : Int32)))]))
  refine Goes.pre (fun t kt => Jvm.RoadKit.iremM X1 hx rfl (hb hby at_34) rfl (own_nz hnn) kt) ?_
  show Goes p e below s _ _ _ (T1.setTop (mkF m 35 #[.val (.int p1), .val (.int p2), .val (.int p3), .val (.int p4), .val (.int nn), .val (.int ((p2 &&& (2147483647 : Int32)) % nn)), .val (.int ((p3 &&& (2147483647 : Int32)) % nn)), .unset, .unset, .unset, .unset, .unset, .unset, .unset] [(.int ((p4 &&& (2147483647 : Int32)) % nn))]))
  refine Goes.pre (fun t kt => XS.istore X1.here hx rfl (hb hby at_35) rfl (l' := #[.val (.int p1), .val (.int p2), .val (.int p3), .val (.int p4), .val (.int nn), .val (.int ((p2 &&& (2147483647 : Int32)) % nn)), .val (.int ((p3 &&& (2147483647 : Int32)) % nn)), .val (.int ((p4 &&& (2147483647 : Int32)) % nn)), .unset, .unset, .unset, .unset, .unset, .unset]) rfl kt) ?_
  show Goes p e below s _ _ _ (T1.setTop (mkF m 37 #[.val (.int p1), .val (.int p2), .val (.int p3), .val (.int p4), .val (.int nn), .val (.int ((p2 &&& (2147483647 : Int32)) % nn)), .val (.int ((p3 &&& (2147483647 : Int32)) % nn)), .val (.int ((p4 &&& (2147483647 : Int32)) % nn)), .unset, .unset, .unset, .unset, .unset, .unset] []))
  suffices J3 : ∀ (d1 : Int32) (d2 : Int32) (d3 : Int32), (¬ d1 < 0 ∧ d1 < nn) → (¬ d2 < 0 ∧ d2 < nn) → (¬ d3 < 0 ∧ d3 < nn) → Goes p e below s (Q_rm0 Z p1 p2 p3 p4 h0 n0) room_1.cells room_1.slots (T1.setTop (mkF m 37 #[.val (.int p1), .val (.int p2), .val (.int p3), .val (.int p4), .val (.int nn), .val (.int d1), .val (.int d2), .val (.int d3), .unset, .unset, .unset, .unset, .unset, .unset] [])) from J3 (((p2 &&& (2147483647 : Int32)) % nn)) (((p3 &&& (2147483647 : Int32)) % nn)) (((p4 &&& (2147483647 : Int32)) % nn)) (own_mod hnn _) (own_mod hnn _) (own_mod hnn _)
  intro d1 d2 d3 hd1 hd2 hd3
  obtain ⟨T4, h4, X4, e4, E4, A4, D4, U4, st4⟩ := newO X1 hx hZ hown (hw _ (List.mem_of_getElem? (i := 5) rfl)) (hw _ (List.mem_of_getElem? (i := 6) rfl)) (hw _ (List.mem_of_getElem? (i := 7) rfl)) eq1 (g := (mkF m 37 #[.val (.int p1), .val (.int p2), .val (.int p3), .val (.int p4), .val (.int nn), .val (.int d1), .val (.int d2), .val (.int d3), .unset, .unset, .unset, .unset, .unset, .unset] [])) rfl (hb hby at_37) (by decide) (by decide)
  obtain ⟨b4, g4⟩ : ∃ z, z = h0.size := ⟨_, rfl⟩
  rw [← g4] at A4 D4 U4 st4
  have gg4 : n0 ≤ b4 := Nat.le_trans Z0 (Nat.le_of_eq g4.symm)
  have Z4 : n0 ≤ h4.size := Nat.le_trans Z0 E4.1
  refine Goes.pre st4 ?_
  have Fn4_16 : Fld Z h4 b4 "com/example/nosograph/nosograph/ranking/DocumentSums" "table" "[I" .null := D4 (Or.inl (hw _ (List.mem_of_getElem? (i := 16) rfl))) (ty := (.array .int)) (by decide)
  have Fn4_23 : Fld Z h4 b4 "com/example/nosograph/nosograph/ranking/DocumentSums" "shift" "I" (.int (0 : Int32)) := D4 (Or.inl (hw _ (List.mem_of_getElem? (i := 23) rfl))) (ty := .int) (by decide)
  have Fn4_25 : Fld Z h4 b4 "com/example/nosograph/nosograph/ranking/DocumentSums" "documents" "[I" .null := D4 (Or.inl (hw _ (List.mem_of_getElem? (i := 25) rfl))) (ty := (.array .int)) (by decide)
  have Fn4_28 : Fld Z h4 b4 "com/example/nosograph/nosograph/ranking/DocumentSums" "sums" "[D" .null := D4 (Or.inl (hw _ (List.mem_of_getElem? (i := 28) rfl))) (ty := (.array .double)) (by decide)
  have Fn4_30 : Fld Z h4 b4 "com/example/nosograph/nosograph/ranking/DocumentSums" "slots" "[I" .null := D4 (Or.inl (hw _ (List.mem_of_getElem? (i := 30) rfl))) (ty := (.array .int)) (by decide)
  have Fn4_32 : Fld Z h4 b4 "com/example/nosograph/nosograph/ranking/DocumentSums" "documentCount" "I" (.int (0 : Int32)) := D4 (Or.inr (hw _ (List.mem_of_getElem? (i := 32) rfl))) (ty := .int) (by decide)
  have Fn4_56 : Fld Z h4 b4 "com/example/nosograph/nosograph/ranking/DocumentSums" "count" "I" (.int (0 : Int32)) := D4 (Or.inl (hw _ (List.mem_of_getElem? (i := 56) rfl))) (ty := .int) (by decide)
  show Goes p e below s _ _ _ (T4.setTop (mkF m 40 #[.val (.int p1), .val (.int p2), .val (.int p3), .val (.int p4), .val (.int nn), .val (.int d1), .val (.int d2), .val (.int d3), .unset, .unset, .unset, .unset, .unset, .unset] [(.ref b4)]))
  refine Goes.pre (fun t kt => XS.dup X4.here hx rfl (hb hby at_40) rfl rfl kt) ?_
  show Goes p e below s _ _ _ (T4.setTop (mkF m 41 #[.val (.int p1), .val (.int p2), .val (.int p3), .val (.int p4), .val (.int nn), .val (.int d1), .val (.int d2), .val (.int d3), .unset, .unset, .unset, .unset, .unset, .unset] [(.ref b4), (.ref b4)]))
  refine Goes.pre (fun t kt => XS.iload X4.here hx rfl (hb hby at_41) rfl kt) ?_
  show Goes p e below s _ _ _ (T4.setTop (mkF m 43 #[.val (.int p1), .val (.int p2), .val (.int p3), .val (.int p4), .val (.int nn), .val (.int d1), .val (.int d2), .val (.int d3), .unset, .unset, .unset, .unset, .unset, .unset] [(.int nn), (.ref b4), (.ref b4)]))
  obtain ⟨_, _, ⟨T5, L5, k5, n5⟩, -, X5, ⟨Lc5, hQ5, l5, y5, z5⟩, st5⟩ := X4.specialBack hx (y := (⟨"com/example/nosograph/nosograph/ranking/DocumentSums", "<init>", "(I)V"⟩ : MethodName)) rfl hown (mvT hZ (hw _ (List.mem_of_getElem? (i := 8) rfl))) (mvT hZ (hw _ (List.mem_of_getElem? (i := 9) rfl))) (mvT hZ (hw _ (List.mem_of_getElem? (i := 10) rfl))) (by decide) (backOf (W := 1) (rminit l Z a0 hw [] b4 nn h4 n0 Z4 A4 gg4 Fn4_16 Fn4_23 Fn4_25 Fn4_28 Fn4_30 Fn4_32 Fn4_56) hZ (hw _ (List.mem_of_getElem? (i := 10) rfl)) (hw _ (List.mem_of_getElem? (i := 7) rfl)) (by decide) (by decide)) (g := (mkF m 43 #[.val (.int p1), .val (.int p2), .val (.int p3), .val (.int p4), .val (.int nn), .val (.int d1), .val (.int d2), .val (.int d3), .unset, .unset, .unset, .unset, .unset, .unset] [(.int nn), (.ref b4), (.ref b4)])) rfl (by rw [hml]; rfl) (Steps.refl _) (a := b4) (argsL := [(.int nn)]) (rest := [(.ref b4)]) (lenOf pd_10 rfl) rfl (by show 2 * 0 + _ ≤ _; exact Nat.le_of_eq rfl) (hb hby at_43) (fun _ _ => ⟨rfl, e4, (by decide : 1 + 4 ≤ _), (by decide : 7 + 40 ≤ _)⟩)
  dsimp only [Pt.U, Pt.locs, Pt.cells, Pt.slots] at X5 l5 y5 z5 st5 hQ5
  subst l5 y5 z5
  obtain ⟨ta_5, da_5, sa_5, la_5, rfl, Nq5, Kq5, pq5_0, pq5_1, pq5_2, pq5_3, pq5_4, pq5_5, pq5_6, pq5_7, pq5_8, pq5_9, pq5_10, pq5_11, pq5_12, pq5_13, pq5_14, pq5_15, pq5_16, pq5_17, pq5_18, pq5_19, pq5_20, pq5_21, pq5_22, pq5_23, pq5_24⟩ := hQ5
  refine Goes.run st5 ?_
  have N5 := Fr.app N1 Nq5
  obtain ⟨h5, e5⟩ : ∃ z, T5.heap = z := ⟨_, rfl⟩
  rw [e5] at Kq5 pq5_14 pq5_15 pq5_16 pq5_17 pq5_18 pq5_19 pq5_20 pq5_21 pq5_22 pq5_23 pq5_24
  have ltb4_5_ta_5 : b4 < ta_5 := Nat.lt_of_lt_of_le A4.lt pq5_0
  have ltb4_5_da_5 : b4 < da_5 := Nat.lt_of_lt_of_le A4.lt pq5_1
  have ltb4_5_sa_5 : b4 < sa_5 := Nat.lt_of_lt_of_le A4.lt pq5_2
  have ltb4_5_la_5 : b4 < la_5 := Nat.lt_of_lt_of_le A4.lt pq5_3
  have Z5 : n0 ≤ h5.size := Nat.le_trans Z4 Kq5.1
  show Goes p e below s _ _ _ (T5.setTop (mkF m 46 #[.val (.int p1), .val (.int p2), .val (.int p3), .val (.int p4), .val (.int nn), .val (.int d1), .val (.int d2), .val (.int d3), .unset, .unset, .unset, .unset, .unset, .unset] [(.ref b4)]))
  refine Goes.pre (fun t kt => XS.astore X5.here hx rfl (hb hby at_46) rfl rfl (l' := #[.val (.int p1), .val (.int p2), .val (.int p3), .val (.int p4), .val (.int nn), .val (.int d1), .val (.int d2), .val (.int d3), .val (.ref b4), .unset, .unset, .unset, .unset, .unset]) rfl kt) ?_
  show Goes p e below s _ _ _ (T5.setTop (mkF m 48 #[.val (.int p1), .val (.int p2), .val (.int p3), .val (.int p4), .val (.int nn), .val (.int d1), .val (.int d2), .val (.int d3), .val (.ref b4), .unset, .unset, .unset, .unset, .unset] []))
  refine Goes.pre (fun t kt => XS.aload X5.here hx rfl (hb hby at_48) rfl rfl kt) ?_
  show Goes p e below s _ _ _ (T5.setTop (mkF m 50 #[.val (.int p1), .val (.int p2), .val (.int p3), .val (.int p4), .val (.int nn), .val (.int d1), .val (.int d2), .val (.int d3), .val (.ref b4), .unset, .unset, .unset, .unset, .unset] [(.ref b4)]))
  refine Goes.pre (fun t kt => XS.iload X5.here hx rfl (hb hby at_50) rfl kt) ?_
  show Goes p e below s _ _ _ (T5.setTop (mkF m 52 #[.val (.int p1), .val (.int p2), .val (.int p3), .val (.int p4), .val (.int nn), .val (.int d1), .val (.int d2), .val (.int d3), .val (.ref b4), .unset, .unset, .unset, .unset, .unset] [(.int d1), (.ref b4)]))
  refine Goes.pre (fun t kt => XS.dconst1 X5.here hx rfl (hb hby at_52) (v := (FP.l2d 1)) (by decide +kernel) kt) ?_
  show Goes p e below s _ _ _ (T5.setTop (mkF m 53 #[.val (.int p1), .val (.int p2), .val (.int p3), .val (.int p4), .val (.int nn), .val (.int d1), .val (.int d2), .val (.int d3), .val (.ref b4), .unset, .unset, .unset, .unset, .unset] [(.double (FP.l2d 1)), (.int d1), (.ref b4)]))
  have fc6 : Exa Z h5 b4 "com/example/nosograph/nosograph/ranking/DocumentSums" := (A4.keep Kq5)
  obtain ⟨cq8, kq8, qa8, qb8, qc8⟩ := isOf hZ e5 fc6
  obtain ⟨_, _, ⟨T7, L7, k7, n7⟩, -, X7, ⟨Lc7, hQ7, l7, y7, z7⟩, st7⟩ := X5.virtualBack hx (y := (⟨"com/example/nosograph/nosograph/ranking/DocumentSums", "add", "(ID)V"⟩ : MethodName)) (z := (⟨"com/example/nosograph/nosograph/ranking/DocumentSums", "add", "(ID)V"⟩ : MethodName)) hown (mvT hZ (hw _ (List.mem_of_getElem? (i := 37) rfl))) (mvT hZ (hw _ (List.mem_of_getElem? (i := 38) rfl))) (notFace_of_selects (args := #[]) (mvT hZ (hw _ (List.mem_of_getElem? (i := 40) rfl)))) (mvT hZ (hw _ (List.mem_of_getElem? (i := 40) rfl))) (mvT hZ (hw _ (List.mem_of_getElem? (i := 39) rfl))) (by decide) (backOf (W := 0) (rmadd l Z a0 hw [] b4 d1 1 ta_5 da_5 sa_5 la_5 (fun _ => -1) (fun _ => 0) (fun _ => 0) (fun _ => 0) 0 (fun _ => 0) nn (0 : Int32) h5 n0 Z5 fc6 gg4 pq5_4 pq5_5 pq5_6 pq5_7 (Nat.ne_of_gt ltb4_5_ta_5) (Nat.ne_of_gt ltb4_5_da_5) pq5_8 (Nat.ne_of_gt ltb4_5_sa_5) pq5_9 pq5_10 (Nat.ne_of_gt ltb4_5_la_5) pq5_11 pq5_12 pq5_13 pq5_14 pq5_15 pq5_16 pq5_17 pq5_18 pq5_19 pq5_20 pq5_21 pq5_22 pq5_23 pq5_24 (own_rep_zero) (by decide) (by decide) (hd1.1) (hd1.2) (own_lt53 (own_bd0 d1) (by decide)) (own_lt53 (show own_lt 1 8 by unfold own_lt; decide) (by decide)) (fun q a b => by omega)) hZ (hw _ (List.mem_of_getElem? (i := 41) rfl)) (hw _ (List.mem_of_getElem? (i := 7) rfl)) (by decide) (by decide)) qa8 qc8 (g := (mkF m 53 #[.val (.int p1), .val (.int p2), .val (.int p3), .val (.int p4), .val (.int nn), .val (.int d1), .val (.int d2), .val (.int d3), .val (.ref b4), .unset, .unset, .unset, .unset, .unset] [(.double (FP.l2d 1)), (.int d1), (.ref b4)])) rfl (by rw [hml]; rfl) (Steps.refl _) (argsL := [(.int d1), (.double (FP.l2d 1))]) (rest := []) (lenOf pd_11 rfl) rfl (by show 2 * 0 + _ ≤ _; exact Nat.le_of_eq rfl) (hb hby at_53) (fun _ _ => ⟨rfl, e5, (by decide : 5 + 0 ≤ _), (by decide : 47 + 0 ≤ _)⟩)
  dsimp only [Pt.U, Pt.locs, Pt.cells, Pt.slots] at X7 l7 y7 z7 st7 hQ7
  subst l7 y7 z7
  obtain ⟨ff2_7, gg2_7, FF2_7, uu2_7, n2_7, cc2_7, rfl, Nq7, Kq7, pq7_0, pq7_1, pq7_2, pq7_3, pq7_4, pq7_5, pq7_6, pq7_7, pq7_8, pq7_9, pq7_10, pq7_11, pq7_12, pq7_13, pq7_14, pq7_15⟩ := hQ7
  refine Goes.run st7 ?_
  have N7 := Fr.app N5 Nq7
  obtain ⟨h7, e7⟩ : ∃ z, T7.heap = z := ⟨_, rfl⟩
  rw [e7] at Kq7 pq7_0 pq7_1 pq7_2 pq7_3 pq7_4 pq7_5 pq7_6 pq7_7 pq7_8 pq7_9 pq7_10
  have Z7 : n0 ≤ h7.size := Nat.le_trans Z5 Kq7.1
  show Goes p e below s _ _ _ (T7.setTop (mkF m 56 #[.val (.int p1), .val (.int p2), .val (.int p3), .val (.int p4), .val (.int nn), .val (.int d1), .val (.int d2), .val (.int d3), .val (.ref b4), .unset, .unset, .unset, .unset, .unset] []))
  have hR_n2_7 := pq7_11
  have hC_n2_7 := pq7_13
  have hU_n2_7 := pq7_14
  have hN_n2_7 : n2_7 ≤ 1 := Nat.le_trans pq7_12 (by omega)
  refine Goes.pre (fun t kt => XS.aload X7.here hx rfl (hb hby at_56) rfl rfl kt) ?_
  show Goes p e below s _ _ _ (T7.setTop (mkF m 58 #[.val (.int p1), .val (.int p2), .val (.int p3), .val (.int p4), .val (.int nn), .val (.int d1), .val (.int d2), .val (.int d3), .val (.ref b4), .unset, .unset, .unset, .unset, .unset] [(.ref b4)]))
  refine Goes.pre (fun t kt => XS.iload X7.here hx rfl (hb hby at_58) rfl kt) ?_
  show Goes p e below s _ _ _ (T7.setTop (mkF m 60 #[.val (.int p1), .val (.int p2), .val (.int p3), .val (.int p4), .val (.int nn), .val (.int d1), .val (.int d2), .val (.int d3), .val (.ref b4), .unset, .unset, .unset, .unset, .unset] [(.int d2), (.ref b4)]))
  refine Goes.pre (X7.ldc2DoubleC hx hown (mvT hZ (hw _ (List.mem_of_getElem? (i := 57) rfl))) (g := (mkF m 60 #[.val (.int p1), .val (.int p2), .val (.int p3), .val (.int p4), .val (.int nn), .val (.int d1), .val (.int d2), .val (.int d3), .val (.ref b4), .unset, .unset, .unset, .unset, .unset] [(.int d2), (.ref b4)])) rfl (hb hby at_60)) ?_
  rw [show (4611686018427387904 : UInt64) = FP.l2d 2 from by decide +kernel]
  show Goes p e below s _ _ _ (T7.setTop (mkF m 63 #[.val (.int p1), .val (.int p2), .val (.int p3), .val (.int p4), .val (.int nn), .val (.int d1), .val (.int d2), .val (.int d3), .val (.ref b4), .unset, .unset, .unset, .unset, .unset] [(.double (FP.l2d 2)), (.int d2), (.ref b4)]))
  have fc9 : Exa Z h7 b4 "com/example/nosograph/nosograph/ranking/DocumentSums" := (fc6.keep Kq7)
  obtain ⟨cq11, kq11, qa11, qb11, qc11⟩ := isOf hZ e7 fc9
  obtain ⟨_, _, ⟨T10, L10, k10, n10⟩, -, X10, ⟨Lc10, hQ10, l10, y10, z10⟩, st10⟩ := X7.virtualBack hx (y := (⟨"com/example/nosograph/nosograph/ranking/DocumentSums", "add", "(ID)V"⟩ : MethodName)) (z := (⟨"com/example/nosograph/nosograph/ranking/DocumentSums", "add", "(ID)V"⟩ : MethodName)) hown (mvT hZ (hw _ (List.mem_of_getElem? (i := 37) rfl))) (mvT hZ (hw _ (List.mem_of_getElem? (i := 38) rfl))) (notFace_of_selects (args := #[]) (mvT hZ (hw _ (List.mem_of_getElem? (i := 40) rfl)))) (mvT hZ (hw _ (List.mem_of_getElem? (i := 40) rfl))) (mvT hZ (hw _ (List.mem_of_getElem? (i := 39) rfl))) (by decide) (backOf (W := 0) (rmadd l Z a0 hw [] b4 d2 2 ta_5 da_5 sa_5 la_5 ff2_7 gg2_7 FF2_7 uu2_7 n2_7 (own_plus (fun _ => 0) d1 1) nn cc2_7 h7 n0 Z7 fc9 gg4 pq5_4 pq5_5 pq5_6 pq5_7 (Nat.ne_of_gt ltb4_5_ta_5) (Nat.ne_of_gt ltb4_5_da_5) pq5_8 (Nat.ne_of_gt ltb4_5_sa_5) pq5_9 pq5_10 (Nat.ne_of_gt ltb4_5_la_5) pq5_11 pq5_12 pq5_13 pq7_0 pq7_1 pq7_2 pq7_3 pq7_4 pq7_5 pq7_6 pq7_7 pq7_8 pq7_9 pq7_10 (hR_n2_7) ((Nat.le_trans hN_n2_7 (by decide))) (hC_n2_7) (hd2.1) (hd2.2) (own_lt53 ((own_bd_plus own_bd0 (show own_lt 1 8 by unfold own_lt; decide) (by decide) (by decide)) d2) (by decide)) (own_lt53 (show own_lt 2 8 by unfold own_lt; decide) (by decide)) (hU_n2_7)) hZ (hw _ (List.mem_of_getElem? (i := 41) rfl)) (hw _ (List.mem_of_getElem? (i := 7) rfl)) (by decide) (by decide)) qa11 qc11 (g := (mkF m 63 #[.val (.int p1), .val (.int p2), .val (.int p3), .val (.int p4), .val (.int nn), .val (.int d1), .val (.int d2), .val (.int d3), .val (.ref b4), .unset, .unset, .unset, .unset, .unset] [(.double (FP.l2d 2)), (.int d2), (.ref b4)])) rfl (by rw [hml]; rfl) (Steps.refl _) (argsL := [(.int d2), (.double (FP.l2d 2))]) (rest := []) (lenOf pd_11 rfl) rfl (by show 2 * 0 + _ ≤ _; exact Nat.le_of_eq rfl) (hb hby at_63) (fun _ _ => ⟨rfl, e7, (by decide : 5 + 0 ≤ _), (by decide : 47 + 0 ≤ _)⟩)
  dsimp only [Pt.U, Pt.locs, Pt.cells, Pt.slots] at X10 l10 y10 z10 st10 hQ10
  subst l10 y10 z10
  obtain ⟨ff2_10, gg2_10, FF2_10, uu2_10, n2_10, cc2_10, rfl, Nq10, Kq10, pq10_0, pq10_1, pq10_2, pq10_3, pq10_4, pq10_5, pq10_6, pq10_7, pq10_8, pq10_9, pq10_10, pq10_11, pq10_12, pq10_13, pq10_14, pq10_15⟩ := hQ10
  refine Goes.run st10 ?_
  have N10 := Fr.app N7 Nq10
  obtain ⟨h10, e10⟩ : ∃ z, T10.heap = z := ⟨_, rfl⟩
  rw [e10] at Kq10 pq10_0 pq10_1 pq10_2 pq10_3 pq10_4 pq10_5 pq10_6 pq10_7 pq10_8 pq10_9 pq10_10
  have Z10 : n0 ≤ h10.size := Nat.le_trans Z7 Kq10.1
  show Goes p e below s _ _ _ (T10.setTop (mkF m 66 #[.val (.int p1), .val (.int p2), .val (.int p3), .val (.int p4), .val (.int nn), .val (.int d1), .val (.int d2), .val (.int d3), .val (.ref b4), .unset, .unset, .unset, .unset, .unset] []))
  have hR_n2_10 := pq10_11
  have hC_n2_10 := pq10_13
  have hU_n2_10 := pq10_14
  have hN_n2_10 : n2_10 ≤ 2 := Nat.le_trans pq10_12 (by omega)
  refine Goes.pre (fun t kt => XS.aload X10.here hx rfl (hb hby at_66) rfl rfl kt) ?_
  show Goes p e below s _ _ _ (T10.setTop (mkF m 68 #[.val (.int p1), .val (.int p2), .val (.int p3), .val (.int p4), .val (.int nn), .val (.int d1), .val (.int d2), .val (.int d3), .val (.ref b4), .unset, .unset, .unset, .unset, .unset] [(.ref b4)]))
  refine Goes.pre (fun t kt => XS.iload X10.here hx rfl (hb hby at_68) rfl kt) ?_
  show Goes p e below s _ _ _ (T10.setTop (mkF m 70 #[.val (.int p1), .val (.int p2), .val (.int p3), .val (.int p4), .val (.int nn), .val (.int d1), .val (.int d2), .val (.int d3), .val (.ref b4), .unset, .unset, .unset, .unset, .unset] [(.int d3), (.ref b4)]))
  refine Goes.pre (X10.ldc2DoubleC hx hown (mvT hZ (hw _ (List.mem_of_getElem? (i := 58) rfl))) (g := (mkF m 70 #[.val (.int p1), .val (.int p2), .val (.int p3), .val (.int p4), .val (.int nn), .val (.int d1), .val (.int d2), .val (.int d3), .val (.ref b4), .unset, .unset, .unset, .unset, .unset] [(.int d3), (.ref b4)])) rfl (hb hby at_70)) ?_
  rw [show (4616189618054758400 : UInt64) = FP.l2d 4 from by decide +kernel]
  show Goes p e below s _ _ _ (T10.setTop (mkF m 73 #[.val (.int p1), .val (.int p2), .val (.int p3), .val (.int p4), .val (.int nn), .val (.int d1), .val (.int d2), .val (.int d3), .val (.ref b4), .unset, .unset, .unset, .unset, .unset] [(.double (FP.l2d 4)), (.int d3), (.ref b4)]))
  have fc12 : Exa Z h10 b4 "com/example/nosograph/nosograph/ranking/DocumentSums" := (fc9.keep Kq10)
  obtain ⟨cq14, kq14, qa14, qb14, qc14⟩ := isOf hZ e10 fc12
  obtain ⟨_, _, ⟨T13, L13, k13, n13⟩, -, X13, ⟨Lc13, hQ13, l13, y13, z13⟩, st13⟩ := X10.virtualBack hx (y := (⟨"com/example/nosograph/nosograph/ranking/DocumentSums", "add", "(ID)V"⟩ : MethodName)) (z := (⟨"com/example/nosograph/nosograph/ranking/DocumentSums", "add", "(ID)V"⟩ : MethodName)) hown (mvT hZ (hw _ (List.mem_of_getElem? (i := 37) rfl))) (mvT hZ (hw _ (List.mem_of_getElem? (i := 38) rfl))) (notFace_of_selects (args := #[]) (mvT hZ (hw _ (List.mem_of_getElem? (i := 40) rfl)))) (mvT hZ (hw _ (List.mem_of_getElem? (i := 40) rfl))) (mvT hZ (hw _ (List.mem_of_getElem? (i := 39) rfl))) (by decide) (backOf (W := 0) (rmadd l Z a0 hw [] b4 d3 4 ta_5 da_5 sa_5 la_5 ff2_10 gg2_10 FF2_10 uu2_10 n2_10 (own_plus (own_plus (fun _ => 0) d1 1) d2 2) nn cc2_10 h10 n0 Z10 fc12 gg4 pq5_4 pq5_5 pq5_6 pq5_7 (Nat.ne_of_gt ltb4_5_ta_5) (Nat.ne_of_gt ltb4_5_da_5) pq5_8 (Nat.ne_of_gt ltb4_5_sa_5) pq5_9 pq5_10 (Nat.ne_of_gt ltb4_5_la_5) pq5_11 pq5_12 pq5_13 pq10_0 pq10_1 pq10_2 pq10_3 pq10_4 pq10_5 pq10_6 pq10_7 pq10_8 pq10_9 pq10_10 (hR_n2_10) ((Nat.le_trans hN_n2_10 (by decide))) (hC_n2_10) (hd3.1) (hd3.2) (own_lt53 ((own_bd_plus (own_bd_plus own_bd0 (show own_lt 1 8 by unfold own_lt; decide) (by decide) (by decide)) (show own_lt 2 8 by unfold own_lt; decide) (by decide) (by decide)) d3) (by decide)) (own_lt53 (show own_lt 4 8 by unfold own_lt; decide) (by decide)) (hU_n2_10)) hZ (hw _ (List.mem_of_getElem? (i := 41) rfl)) (hw _ (List.mem_of_getElem? (i := 7) rfl)) (by decide) (by decide)) qa14 qc14 (g := (mkF m 73 #[.val (.int p1), .val (.int p2), .val (.int p3), .val (.int p4), .val (.int nn), .val (.int d1), .val (.int d2), .val (.int d3), .val (.ref b4), .unset, .unset, .unset, .unset, .unset] [(.double (FP.l2d 4)), (.int d3), (.ref b4)])) rfl (by rw [hml]; rfl) (Steps.refl _) (argsL := [(.int d3), (.double (FP.l2d 4))]) (rest := []) (lenOf pd_11 rfl) rfl (by show 2 * 0 + _ ≤ _; exact Nat.le_of_eq rfl) (hb hby at_73) (fun _ _ => ⟨rfl, e10, (by decide : 5 + 0 ≤ _), (by decide : 47 + 0 ≤ _)⟩)
  dsimp only [Pt.U, Pt.locs, Pt.cells, Pt.slots] at X13 l13 y13 z13 st13 hQ13
  subst l13 y13 z13
  obtain ⟨ff2_13, gg2_13, FF2_13, uu2_13, n2_13, cc2_13, rfl, Nq13, Kq13, pq13_0, pq13_1, pq13_2, pq13_3, pq13_4, pq13_5, pq13_6, pq13_7, pq13_8, pq13_9, pq13_10, pq13_11, pq13_12, pq13_13, pq13_14, pq13_15⟩ := hQ13
  refine Goes.run st13 ?_
  have N13 := Fr.app N10 Nq13
  obtain ⟨h13, e13⟩ : ∃ z, T13.heap = z := ⟨_, rfl⟩
  rw [e13] at Kq13 pq13_0 pq13_1 pq13_2 pq13_3 pq13_4 pq13_5 pq13_6 pq13_7 pq13_8 pq13_9 pq13_10
  have Z13 : n0 ≤ h13.size := Nat.le_trans Z10 Kq13.1
  show Goes p e below s _ _ _ (T13.setTop (mkF m 76 #[.val (.int p1), .val (.int p2), .val (.int p3), .val (.int p4), .val (.int nn), .val (.int d1), .val (.int d2), .val (.int d3), .val (.ref b4), .unset, .unset, .unset, .unset, .unset] []))
  have hR_n2_13 := pq13_11
  have hC_n2_13 := pq13_13
  have hU_n2_13 := pq13_14
  have hN_n2_13 : n2_13 ≤ 3 := Nat.le_trans pq13_12 (by omega)
  refine Goes.pre (fun t kt => XS.aload X13.here hx rfl (hb hby at_76) rfl rfl kt) ?_
  show Goes p e below s _ _ _ (T13.setTop (mkF m 78 #[.val (.int p1), .val (.int p2), .val (.int p3), .val (.int p4), .val (.int nn), .val (.int d1), .val (.int d2), .val (.int d3), .val (.ref b4), .unset, .unset, .unset, .unset, .unset] [(.ref b4)]))
  have fc15 : Exa Z h13 b4 "com/example/nosograph/nosograph/ranking/DocumentSums" := (fc12.keep Kq13)
  obtain ⟨cq17, kq17, qa17, qb17, qc17⟩ := isOf hZ e13 fc15
  obtain ⟨_, _, ⟨T16, L16, k16, n16⟩, -, X16, ⟨Lc16, hQ16, l16, y16, z16⟩, st16⟩ := X13.virtualBack hx (y := (⟨"com/example/nosograph/nosograph/ranking/DocumentSums", "clear", "()V"⟩ : MethodName)) (z := (⟨"com/example/nosograph/nosograph/ranking/DocumentSums", "clear", "()V"⟩ : MethodName)) hown (mvT hZ (hw _ (List.mem_of_getElem? (i := 59) rfl))) (mvT hZ (hw _ (List.mem_of_getElem? (i := 60) rfl))) (notFace_of_selects (args := #[]) (mvT hZ (hw _ (List.mem_of_getElem? (i := 62) rfl)))) (mvT hZ (hw _ (List.mem_of_getElem? (i := 62) rfl))) (mvT hZ (hw _ (List.mem_of_getElem? (i := 61) rfl))) (by decide) (backOf (W := 0) (rmclear l Z a0 hw [] b4 ta_5 da_5 sa_5 la_5 ff2_13 gg2_13 uu2_13 n2_13 nn cc2_13 h13 n0 Z13 fc15 gg4 pq5_4 (Nat.ne_of_gt ltb4_5_ta_5) pq5_11 pq13_0 pq13_4 pq13_6 pq13_1 pq13_2 pq13_3 pq13_5 pq13_7 pq13_10 (hR_n2_13.1) (hU_n2_13) (hC_n2_13)) hZ (hw _ (List.mem_of_getElem? (i := 63) rfl)) (hw _ (List.mem_of_getElem? (i := 7) rfl)) (by decide) (by decide)) qa17 qc17 (g := (mkF m 78 #[.val (.int p1), .val (.int p2), .val (.int p3), .val (.int p4), .val (.int nn), .val (.int d1), .val (.int d2), .val (.int d3), .val (.ref b4), .unset, .unset, .unset, .unset, .unset] [(.ref b4)])) rfl (by rw [hml]; rfl) (Steps.refl _) (argsL := []) (rest := []) (lenOf pd_12 rfl) rfl (by show 2 * 0 + _ ≤ _; exact Nat.le_of_eq rfl) (hb hby at_78) (fun _ _ => ⟨rfl, e13, (by decide : 5 + 0 ≤ _), (by decide : 47 + 0 ≤ _)⟩)
  dsimp only [Pt.U, Pt.locs, Pt.cells, Pt.slots] at X16 l16 y16 z16 st16 hQ16
  subst l16 y16 z16
  obtain ⟨rfl, Nq16, Kq16, pq16_0, pq16_1, pq16_2, pq16_3, pq16_4, pq16_5, pq16_6, pq16_7⟩ := hQ16
  refine Goes.run st16 ?_
  have N16 := Fr.app N13 Nq16
  obtain ⟨h16, e16⟩ : ∃ z, T16.heap = z := ⟨_, rfl⟩
  rw [e16] at Kq16 pq16_0 pq16_1 pq16_2 pq16_3 pq16_4 pq16_5 pq16_6 pq16_7
  have Z16 : n0 ≤ h16.size := Nat.le_trans Z13 Kq16.1
  show Goes p e below s _ _ _ (T16.setTop (mkF m 81 #[.val (.int p1), .val (.int p2), .val (.int p3), .val (.int p4), .val (.int nn), .val (.int d1), .val (.int d2), .val (.int d3), .val (.ref b4), .unset, .unset, .unset, .unset, .unset] []))
  refine Goes.pre (fun t kt => XS.aload X16.here hx rfl (hb hby at_81) rfl rfl kt) ?_
  show Goes p e below s _ _ _ (T16.setTop (mkF m 83 #[.val (.int p1), .val (.int p2), .val (.int p3), .val (.int p4), .val (.int nn), .val (.int d1), .val (.int d2), .val (.int d3), .val (.ref b4), .unset, .unset, .unset, .unset, .unset] [(.ref b4)]))
  refine Goes.pre (fun t kt => XS.iload X16.here hx rfl (hb hby at_83) rfl kt) ?_
  show Goes p e below s _ _ _ (T16.setTop (mkF m 85 #[.val (.int p1), .val (.int p2), .val (.int p3), .val (.int p4), .val (.int nn), .val (.int d1), .val (.int d2), .val (.int d3), .val (.ref b4), .unset, .unset, .unset, .unset, .unset] [(.int d1), (.ref b4)]))
  have fc18 : Exa Z h16 b4 "com/example/nosograph/nosograph/ranking/DocumentSums" := (fc15.keep Kq16)
  have fc19 : OwnI Z h16 da_5 (8 : Int32) gg2_13 := (pq13_8.keep Kq16 (ninS pq5_8 (ninS (Nat.ne_of_gt ltb4_5_da_5) nin0)))
  obtain ⟨cq21, kq21, qa21, qb21, qc21⟩ := isOf hZ e16 fc18
  obtain ⟨_, _, ⟨T20, L20, k20, n20⟩, -, X20, ⟨Lc20, hQ20, l20, y20, z20⟩, st20⟩ := X16.virtualBack hx (y := (⟨"com/example/nosograph/nosograph/ranking/DocumentSums", "holds", "(I)Z"⟩ : MethodName)) (z := (⟨"com/example/nosograph/nosograph/ranking/DocumentSums", "holds", "(I)Z"⟩ : MethodName)) hown (mvT hZ (hw _ (List.mem_of_getElem? (i := 64) rfl))) (mvT hZ (hw _ (List.mem_of_getElem? (i := 65) rfl))) (notFace_of_selects (args := #[]) (mvT hZ (hw _ (List.mem_of_getElem? (i := 67) rfl)))) (mvT hZ (hw _ (List.mem_of_getElem? (i := 67) rfl))) (mvT hZ (hw _ (List.mem_of_getElem? (i := 66) rfl))) (by decide) (backOf (W := 0) (rmholds l Z a0 hw [] b4 d1 ta_5 da_5 (fun _ => -1) gg2_13 0 h16 n0 Z16 fc18 pq16_0 pq16_3 pq16_4 pq16_7 fc19 ((own_rep_zero (F := fun _ => 0)).1) (fun _ => rfl)) hZ (hw _ (List.mem_of_getElem? (i := 68) rfl)) (hw _ (List.mem_of_getElem? (i := 7) rfl)) (by decide) (by decide)) qa21 qc21 (g := (mkF m 85 #[.val (.int p1), .val (.int p2), .val (.int p3), .val (.int p4), .val (.int nn), .val (.int d1), .val (.int d2), .val (.int d3), .val (.ref b4), .unset, .unset, .unset, .unset, .unset] [(.int d1), (.ref b4)])) rfl (by rw [hml]; rfl) (Steps.refl _) (argsL := [(.int d1)]) (rest := []) (lenOf pd_13 rfl) rfl (by show 2 * 0 + _ ≤ _; exact Nat.le_of_eq rfl) (hb hby at_85) (fun _ _ => ⟨rfl, e16, (by decide : 5 + 0 ≤ _), (by decide : 47 + 0 ≤ _)⟩)
  dsimp only [Pt.U, Pt.locs, Pt.cells, Pt.slots] at X20 l20 y20 z20 st20 hQ20
  subst l20 y20 z20
  obtain ⟨rfl, Nq20, eq20⟩ := hQ20
  refine Goes.run st20 ?_
  have N20 := Fr.app N16 Nq20
  show Goes p e below s _ _ _ (T20.setTop (mkF m 88 #[.val (.int p1), .val (.int p2), .val (.int p3), .val (.int p4), .val (.int nn), .val (.int d1), .val (.int d2), .val (.int d3), .val (.ref b4), .unset, .unset, .unset, .unset, .unset] [(.int (0 : Int32))]))
  refine Goes.pre (fun t kt => XS.ifNo X20.here hx rfl (hb hby at_88) rfl (Jvm.Free.XT.i0_ne_f ((by decide))) kt) ?_
  show Goes p e below s _ _ _ (T20.setTop (mkF m 91 #[.val (.int p1), .val (.int p2), .val (.int p3), .val (.int p4), .val (.int nn), .val (.int d1), .val (.int d2), .val (.int d3), .val (.ref b4), .unset, .unset, .unset, .unset, .unset] []))
  refine Goes.pre (fun t kt => XS.iconst X20.here hx rfl (hb hby at_91) kt) ?_
  show Goes p e below s _ _ _ (T20.setTop (mkF m 92 #[.val (.int p1), .val (.int p2), .val (.int p3), .val (.int p4), .val (.int nn), .val (.int d1), .val (.int d2), .val (.int d3), .val (.ref b4), .unset, .unset, .unset, .unset, .unset] [(.int (1 : Int32))]))
  refine Goes.pre (fun t kt => XS.goto X20.here hx rfl (pc0 := 92) (pc' := 96) rfl (hb hby at_92) (by decide) (by decide) kt) ?_
  show Goes p e below s _ _ _ (T20.setTop (mkF m 96 #[.val (.int p1), .val (.int p2), .val (.int p3), .val (.int p4), .val (.int nn), .val (.int d1), .val (.int d2), .val (.int d3), .val (.ref b4), .unset, .unset, .unset, .unset, .unset] [(.int (1 : Int32))]))
  refine Goes.pre (fun t kt => XS.istore X20.here hx rfl (hb hby at_96) rfl (l' := #[.val (.int p1), .val (.int p2), .val (.int p3), .val (.int p4), .val (.int nn), .val (.int d1), .val (.int d2), .val (.int d3), .val (.ref b4), .val (.int (1 : Int32)), .unset, .unset, .unset, .unset]) rfl kt) ?_
  show Goes p e below s _ _ _ (T20.setTop (mkF m 98 #[.val (.int p1), .val (.int p2), .val (.int p3), .val (.int p4), .val (.int nn), .val (.int d1), .val (.int d2), .val (.int d3), .val (.ref b4), .val (.int (1 : Int32)), .unset, .unset, .unset, .unset] []))
  refine Goes.pre (fun t kt => XS.aload X20.here hx rfl (hb hby at_98) rfl rfl kt) ?_
  show Goes p e below s _ _ _ (T20.setTop (mkF m 100 #[.val (.int p1), .val (.int p2), .val (.int p3), .val (.int p4), .val (.int nn), .val (.int d1), .val (.int d2), .val (.int d3), .val (.ref b4), .val (.int (1 : Int32)), .unset, .unset, .unset, .unset] [(.ref b4)]))
  refine Goes.pre (fun t kt => XS.iload X20.here hx rfl (hb hby at_100) rfl kt) ?_
  show Goes p e below s _ _ _ (T20.setTop (mkF m 102 #[.val (.int p1), .val (.int p2), .val (.int p3), .val (.int p4), .val (.int nn), .val (.int d1), .val (.int d2), .val (.int d3), .val (.ref b4), .val (.int (1 : Int32)), .unset, .unset, .unset, .unset] [(.int d2), (.ref b4)]))
  obtain ⟨cq23, kq23, qa23, qb23, qc23⟩ := isOf hZ eq20 fc18
  obtain ⟨_, _, ⟨T22, L22, k22, n22⟩, -, X22, ⟨Lc22, hQ22, l22, y22, z22⟩, st22⟩ := X20.virtualBack hx (y := (⟨"com/example/nosograph/nosograph/ranking/DocumentSums", "holds", "(I)Z"⟩ : MethodName)) (z := (⟨"com/example/nosograph/nosograph/ranking/DocumentSums", "holds", "(I)Z"⟩ : MethodName)) hown (mvT hZ (hw _ (List.mem_of_getElem? (i := 64) rfl))) (mvT hZ (hw _ (List.mem_of_getElem? (i := 65) rfl))) (notFace_of_selects (args := #[]) (mvT hZ (hw _ (List.mem_of_getElem? (i := 67) rfl)))) (mvT hZ (hw _ (List.mem_of_getElem? (i := 67) rfl))) (mvT hZ (hw _ (List.mem_of_getElem? (i := 66) rfl))) (by decide) (backOf (W := 0) (rmholds l Z a0 hw [] b4 d2 ta_5 da_5 (fun _ => -1) gg2_13 0 h16 n0 Z16 fc18 pq16_0 pq16_3 pq16_4 pq16_7 fc19 ((own_rep_zero (F := fun _ => 0)).1) (fun _ => rfl)) hZ (hw _ (List.mem_of_getElem? (i := 68) rfl)) (hw _ (List.mem_of_getElem? (i := 7) rfl)) (by decide) (by decide)) qa23 qc23 (g := (mkF m 102 #[.val (.int p1), .val (.int p2), .val (.int p3), .val (.int p4), .val (.int nn), .val (.int d1), .val (.int d2), .val (.int d3), .val (.ref b4), .val (.int (1 : Int32)), .unset, .unset, .unset, .unset] [(.int d2), (.ref b4)])) rfl (by rw [hml]; rfl) (Steps.refl _) (argsL := [(.int d2)]) (rest := []) (lenOf pd_13 rfl) rfl (by show 2 * 0 + _ ≤ _; exact Nat.le_of_eq rfl) (hb hby at_102) (fun _ _ => ⟨rfl, eq20, (by decide : 5 + 0 ≤ _), (by decide : 47 + 0 ≤ _)⟩)
  dsimp only [Pt.U, Pt.locs, Pt.cells, Pt.slots] at X22 l22 y22 z22 st22 hQ22
  subst l22 y22 z22
  obtain ⟨rfl, Nq22, eq22⟩ := hQ22
  refine Goes.run st22 ?_
  have N22 := Fr.app N20 Nq22
  show Goes p e below s _ _ _ (T22.setTop (mkF m 105 #[.val (.int p1), .val (.int p2), .val (.int p3), .val (.int p4), .val (.int nn), .val (.int d1), .val (.int d2), .val (.int d3), .val (.ref b4), .val (.int (1 : Int32)), .unset, .unset, .unset, .unset] [(.int (0 : Int32))]))
  refine Goes.pre (fun t kt => XS.ifNo X22.here hx rfl (hb hby at_105) rfl (Jvm.Free.XT.i0_ne_f ((by decide))) kt) ?_
  show Goes p e below s _ _ _ (T22.setTop (mkF m 108 #[.val (.int p1), .val (.int p2), .val (.int p3), .val (.int p4), .val (.int nn), .val (.int d1), .val (.int d2), .val (.int d3), .val (.ref b4), .val (.int (1 : Int32)), .unset, .unset, .unset, .unset] []))
  refine Goes.pre (fun t kt => XS.iconst X22.here hx rfl (hb hby at_108) kt) ?_
  show Goes p e below s _ _ _ (T22.setTop (mkF m 109 #[.val (.int p1), .val (.int p2), .val (.int p3), .val (.int p4), .val (.int nn), .val (.int d1), .val (.int d2), .val (.int d3), .val (.ref b4), .val (.int (1 : Int32)), .unset, .unset, .unset, .unset] [(.int (1 : Int32))]))
  refine Goes.pre (fun t kt => XS.goto X22.here hx rfl (pc0 := 109) (pc' := 113) rfl (hb hby at_109) (by decide) (by decide) kt) ?_
  show Goes p e below s _ _ _ (T22.setTop (mkF m 113 #[.val (.int p1), .val (.int p2), .val (.int p3), .val (.int p4), .val (.int nn), .val (.int d1), .val (.int d2), .val (.int d3), .val (.ref b4), .val (.int (1 : Int32)), .unset, .unset, .unset, .unset] [(.int (1 : Int32))]))
  refine Goes.pre (fun t kt => XS.istore X22.here hx rfl (hb hby at_113) rfl (l' := #[.val (.int p1), .val (.int p2), .val (.int p3), .val (.int p4), .val (.int nn), .val (.int d1), .val (.int d2), .val (.int d3), .val (.ref b4), .val (.int (1 : Int32)), .val (.int (1 : Int32)), .unset, .unset, .unset]) rfl kt) ?_
  show Goes p e below s _ _ _ (T22.setTop (mkF m 115 #[.val (.int p1), .val (.int p2), .val (.int p3), .val (.int p4), .val (.int nn), .val (.int d1), .val (.int d2), .val (.int d3), .val (.ref b4), .val (.int (1 : Int32)), .val (.int (1 : Int32)), .unset, .unset, .unset] []))
  refine Goes.pre (fun t kt => XS.aload X22.here hx rfl (hb hby at_115) rfl rfl kt) ?_
  show Goes p e below s _ _ _ (T22.setTop (mkF m 117 #[.val (.int p1), .val (.int p2), .val (.int p3), .val (.int p4), .val (.int nn), .val (.int d1), .val (.int d2), .val (.int d3), .val (.ref b4), .val (.int (1 : Int32)), .val (.int (1 : Int32)), .unset, .unset, .unset] [(.ref b4)]))
  refine Goes.pre (fun t kt => XS.iload X22.here hx rfl (hb hby at_117) rfl kt) ?_
  show Goes p e below s _ _ _ (T22.setTop (mkF m 119 #[.val (.int p1), .val (.int p2), .val (.int p3), .val (.int p4), .val (.int nn), .val (.int d1), .val (.int d2), .val (.int d3), .val (.ref b4), .val (.int (1 : Int32)), .val (.int (1 : Int32)), .unset, .unset, .unset] [(.int d3), (.ref b4)]))
  refine Goes.pre (X22.ldc2DoubleC hx hown (mvT hZ (hw _ (List.mem_of_getElem? (i := 69) rfl))) (g := (mkF m 119 #[.val (.int p1), .val (.int p2), .val (.int p3), .val (.int p4), .val (.int nn), .val (.int d1), .val (.int d2), .val (.int d3), .val (.ref b4), .val (.int (1 : Int32)), .val (.int (1 : Int32)), .unset, .unset, .unset] [(.int d3), (.ref b4)])) rfl (hb hby at_119)) ?_
  rw [show (4620693217682128896 : UInt64) = FP.l2d 8 from by decide +kernel]
  show Goes p e below s _ _ _ (T22.setTop (mkF m 122 #[.val (.int p1), .val (.int p2), .val (.int p3), .val (.int p4), .val (.int nn), .val (.int d1), .val (.int d2), .val (.int d3), .val (.ref b4), .val (.int (1 : Int32)), .val (.int (1 : Int32)), .unset, .unset, .unset] [(.double (FP.l2d 8)), (.int d3), (.ref b4)]))
  have fc24 : OwnD Z h16 sa_5 (8 : Int32) FF2_13 := (pq13_9.keep Kq16 (ninS pq5_9 (ninS (Nat.ne_of_gt ltb4_5_sa_5) nin0)))
  have fc25 : OwnI Z h16 la_5 (8 : Int32) uu2_13 := (pq13_10.keep Kq16 (ninS pq5_11 (ninS (Nat.ne_of_gt ltb4_5_la_5) nin0)))
  obtain ⟨cq27, kq27, qa27, qb27, qc27⟩ := isOf hZ eq22 fc18
  obtain ⟨_, _, ⟨T26, L26, k26, n26⟩, -, X26, ⟨Lc26, hQ26, l26, y26, z26⟩, st26⟩ := X22.virtualBack hx (y := (⟨"com/example/nosograph/nosograph/ranking/DocumentSums", "add", "(ID)V"⟩ : MethodName)) (z := (⟨"com/example/nosograph/nosograph/ranking/DocumentSums", "add", "(ID)V"⟩ : MethodName)) hown (mvT hZ (hw _ (List.mem_of_getElem? (i := 37) rfl))) (mvT hZ (hw _ (List.mem_of_getElem? (i := 38) rfl))) (notFace_of_selects (args := #[]) (mvT hZ (hw _ (List.mem_of_getElem? (i := 40) rfl)))) (mvT hZ (hw _ (List.mem_of_getElem? (i := 40) rfl))) (mvT hZ (hw _ (List.mem_of_getElem? (i := 39) rfl))) (by decide) (backOf (W := 0) (rmadd l Z a0 hw [] b4 d3 8 ta_5 da_5 sa_5 la_5 (fun _ => -1) gg2_13 FF2_13 uu2_13 0 (fun _ => 0) nn (0 : Int32) h16 n0 Z16 fc18 gg4 pq5_4 pq5_5 pq5_6 pq5_7 (Nat.ne_of_gt ltb4_5_ta_5) (Nat.ne_of_gt ltb4_5_da_5) pq5_8 (Nat.ne_of_gt ltb4_5_sa_5) pq5_9 pq5_10 (Nat.ne_of_gt ltb4_5_la_5) pq5_11 pq5_12 pq5_13 pq16_0 pq16_3 pq16_4 pq16_5 pq16_1 pq16_6 pq16_2 pq16_7 fc19 fc24 fc25 (own_rep_zero) (by decide) (by decide) (hd3.1) (hd3.2) (own_lt53 (own_bd0 d3) (by decide)) (own_lt53 (show own_lt 8 8 by unfold own_lt; decide) (by decide)) (fun q a b => by omega)) hZ (hw _ (List.mem_of_getElem? (i := 41) rfl)) (hw _ (List.mem_of_getElem? (i := 7) rfl)) (by decide) (by decide)) qa27 qc27 (g := (mkF m 122 #[.val (.int p1), .val (.int p2), .val (.int p3), .val (.int p4), .val (.int nn), .val (.int d1), .val (.int d2), .val (.int d3), .val (.ref b4), .val (.int (1 : Int32)), .val (.int (1 : Int32)), .unset, .unset, .unset] [(.double (FP.l2d 8)), (.int d3), (.ref b4)])) rfl (by rw [hml]; rfl) (Steps.refl _) (argsL := [(.int d3), (.double (FP.l2d 8))]) (rest := []) (lenOf pd_11 rfl) rfl (by show 2 * 0 + _ ≤ _; exact Nat.le_of_eq rfl) (hb hby at_122) (fun _ _ => ⟨rfl, eq22, (by decide : 5 + 0 ≤ _), (by decide : 47 + 0 ≤ _)⟩)
  dsimp only [Pt.U, Pt.locs, Pt.cells, Pt.slots] at X26 l26 y26 z26 st26 hQ26
  subst l26 y26 z26
  obtain ⟨ff2_26, gg2_26, FF2_26, uu2_26, n2_26, cc2_26, rfl, Nq26, Kq26, pq26_0, pq26_1, pq26_2, pq26_3, pq26_4, pq26_5, pq26_6, pq26_7, pq26_8, pq26_9, pq26_10, pq26_11, pq26_12, pq26_13, pq26_14, pq26_15⟩ := hQ26
  refine Goes.run st26 ?_
  have N26 := Fr.app N22 Nq26
  obtain ⟨h26, e26⟩ : ∃ z, T26.heap = z := ⟨_, rfl⟩
  rw [e26] at Kq26 pq26_0 pq26_1 pq26_2 pq26_3 pq26_4 pq26_5 pq26_6 pq26_7 pq26_8 pq26_9 pq26_10
  have Z26 : n0 ≤ h26.size := Nat.le_trans Z16 Kq26.1
  show Goes p e below s _ _ _ (T26.setTop (mkF m 125 #[.val (.int p1), .val (.int p2), .val (.int p3), .val (.int p4), .val (.int nn), .val (.int d1), .val (.int d2), .val (.int d3), .val (.ref b4), .val (.int (1 : Int32)), .val (.int (1 : Int32)), .unset, .unset, .unset] []))
  have hR_n2_26 := pq26_11
  have hC_n2_26 := pq26_13
  have hU_n2_26 := pq26_14
  have hN_n2_26 : n2_26 ≤ 1 := Nat.le_trans pq26_12 (by omega)
  obtain ⟨hone, hg0⟩ := own_one hN_n2_26 hC_n2_26 pq26_15
  subst hone
  show Goes p e below s _ _ _ (T26.setTop (mkF m 125 #[.val (.int p1), .val (.int p2), .val (.int p3), .val (.int p4), .val (.int nn), .val (.int d1), .val (.int d2), .val (.int d3), .val (.ref b4), .val (.int (1 : Int32)), .val (.int (1 : Int32)), .unset, .unset, .unset] []))
  refine Goes.pre (fun t kt => XS.aload X26.here hx rfl (hb hby at_125) rfl rfl kt) ?_
  show Goes p e below s _ _ _ (T26.setTop (mkF m 127 #[.val (.int p1), .val (.int p2), .val (.int p3), .val (.int p4), .val (.int nn), .val (.int d1), .val (.int d2), .val (.int d3), .val (.ref b4), .val (.int (1 : Int32)), .val (.int (1 : Int32)), .unset, .unset, .unset] [(.ref b4)]))
  have fc30 : Exa Z h26 b4 "com/example/nosograph/nosograph/ranking/DocumentSums" := (fc18.keep Kq26)
  obtain ⟨cq29, kq29, qa29, qb29, qc29⟩ := isOf hZ e26 fc30
  obtain ⟨_, _, ⟨T28, L28, k28, n28⟩, -, X28, ⟨Lc28, hQ28, l28, y28, z28⟩, st28⟩ := X26.virtualBack hx (y := (⟨"com/example/nosograph/nosograph/ranking/DocumentSums", "documents", "()[I"⟩ : MethodName)) (z := (⟨"com/example/nosograph/nosograph/ranking/DocumentSums", "documents", "()[I"⟩ : MethodName)) hown (mvT hZ (hw _ (List.mem_of_getElem? (i := 70) rfl))) (mvT hZ (hw _ (List.mem_of_getElem? (i := 71) rfl))) (notFace_of_selects (args := #[]) (mvT hZ (hw _ (List.mem_of_getElem? (i := 73) rfl)))) (mvT hZ (hw _ (List.mem_of_getElem? (i := 73) rfl))) (mvT hZ (hw _ (List.mem_of_getElem? (i := 72) rfl))) (by decide) (backOf (W := 0) (rmdocs l Z a0 hw [] b4 da_5 gg2_26 h26 n0 Z26 pq26_2 pq26_6 pq26_8) hZ (hw _ (List.mem_of_getElem? (i := 74) rfl)) (hw _ (List.mem_of_getElem? (i := 7) rfl)) (by decide) (by decide)) qa29 qc29 (g := (mkF m 127 #[.val (.int p1), .val (.int p2), .val (.int p3), .val (.int p4), .val (.int nn), .val (.int d1), .val (.int d2), .val (.int d3), .val (.ref b4), .val (.int (1 : Int32)), .val (.int (1 : Int32)), .unset, .unset, .unset] [(.ref b4)])) rfl (by rw [hml]; rfl) (Steps.refl _) (argsL := []) (rest := []) (lenOf pd_14 rfl) rfl (by show 2 * 0 + _ ≤ _; exact Nat.le_of_eq rfl) (hb hby at_127) (fun _ _ => ⟨rfl, e26, (by decide : 5 + 1 ≤ _), (by decide : 47 + 1 ≤ _)⟩)
  dsimp only [Pt.U, Pt.locs, Pt.cells, Pt.slots] at X28 l28 y28 z28 st28 hQ28
  subst l28 y28 z28
  obtain ⟨r_28, kr_28, rfl, Nq28, Kq28, pq28_0, pq28_1, pq28_2⟩ := hQ28
  refine Goes.run st28 ?_
  have N28 := Fr.app N26 Nq28
  obtain ⟨h28, e28⟩ : ∃ z, T28.heap = z := ⟨_, rfl⟩
  rw [e28] at Kq28 pq28_2
  have ltb4_28_r_28 : b4 < r_28 := Nat.lt_of_lt_of_le fc30.lt pq28_0
  have ltta_5_28_r_28 : ta_5 < r_28 := Nat.lt_of_lt_of_le pq26_7.lt pq28_0
  have ltda_5_28_r_28 : da_5 < r_28 := Nat.lt_of_lt_of_le pq26_8.lt pq28_0
  have ltsa_5_28_r_28 : sa_5 < r_28 := Nat.lt_of_lt_of_le pq26_9.lt pq28_0
  have ltla_5_28_r_28 : la_5 < r_28 := Nat.lt_of_lt_of_le pq26_10.lt pq28_0
  have Z28 : n0 ≤ h28.size := Nat.le_trans Z26 Kq28.1
  show Goes p e below s _ _ _ (T28.setTop (mkF m 130 #[.val (.int p1), .val (.int p2), .val (.int p3), .val (.int p4), .val (.int nn), .val (.int d1), .val (.int d2), .val (.int d3), .val (.ref b4), .val (.int (1 : Int32)), .val (.int (1 : Int32)), .unset, .unset, .unset] [(.ref r_28)]))
  refine Goes.pre (fun t kt => XS.astore X28.here hx rfl (hb hby at_130) rfl rfl (l' := #[.val (.int p1), .val (.int p2), .val (.int p3), .val (.int p4), .val (.int nn), .val (.int d1), .val (.int d2), .val (.int d3), .val (.ref b4), .val (.int (1 : Int32)), .val (.int (1 : Int32)), .val (.ref r_28), .unset, .unset]) rfl kt) ?_
  show Goes p e below s _ _ _ (T28.setTop (mkF m 132 #[.val (.int p1), .val (.int p2), .val (.int p3), .val (.int p4), .val (.int nn), .val (.int d1), .val (.int d2), .val (.int d3), .val (.ref b4), .val (.int (1 : Int32)), .val (.int (1 : Int32)), .val (.ref r_28), .unset, .unset] []))
  refine Goes.pre (fun t kt => XS.aload X28.here hx rfl (hb hby at_132) rfl rfl kt) ?_
  show Goes p e below s _ _ _ (T28.setTop (mkF m 134 #[.val (.int p1), .val (.int p2), .val (.int p3), .val (.int p4), .val (.int nn), .val (.int d1), .val (.int d2), .val (.int d3), .val (.ref b4), .val (.int (1 : Int32)), .val (.int (1 : Int32)), .val (.ref r_28), .unset, .unset] [(.ref r_28)]))
  obtain ⟨cl31, Ar31, aq31, aS31, aN31, aH31, aG31⟩ := pq28_2
  have V31 : Arv Z h28 r_28 kr_28 .int (1 : Int32) [(.int (gg2_26 (0 : Int32)))] (.int (0 : Int32)) := ⟨cl31, Ar31, aq31, aS31, aN31, aH31, aG31⟩
  refine Goes.pre (X28.arraylength hx (by rw [e28]; exact Ar31.1) (State.isArrayOf_alike hZ.alike Ar31.2.1) (g := (mkF m 134 #[.val (.int p1), .val (.int p2), .val (.int p3), .val (.int p4), .val (.int nn), .val (.int d1), .val (.int d2), .val (.int d3), .val (.ref b4), .val (.int (1 : Int32)), .val (.int (1 : Int32)), .val (.ref r_28), .unset, .unset] [(.ref r_28)])) rfl rfl (hb hby at_134)) ?_
  rw [len_of aS31 aN31]
  show Goes p e below s _ _ _ (T28.setTop (mkF m 135 #[.val (.int p1), .val (.int p2), .val (.int p3), .val (.int p4), .val (.int nn), .val (.int d1), .val (.int d2), .val (.int d3), .val (.ref b4), .val (.int (1 : Int32)), .val (.int (1 : Int32)), .val (.ref r_28), .unset, .unset] [(.int (1 : Int32))]))
  refine Goes.pre (fun t kt => XS.iconst X28.here hx rfl (hb hby at_135) kt) ?_
  show Goes p e below s _ _ _ (T28.setTop (mkF m 136 #[.val (.int p1), .val (.int p2), .val (.int p3), .val (.int p4), .val (.int nn), .val (.int d1), .val (.int d2), .val (.int d3), .val (.ref b4), .val (.int (1 : Int32)), .val (.int (1 : Int32)), .val (.ref r_28), .unset, .unset] [(.int (1 : Int32)), (.int (1 : Int32))]))
  refine Goes.pre (fun t kt => XS.icmpNo X28.here hx rfl (hb hby at_136) rfl (Jvm.Free.XT.ii_ne_f ((by decide))) kt) ?_
  show Goes p e below s _ _ _ (T28.setTop (mkF m 139 #[.val (.int p1), .val (.int p2), .val (.int p3), .val (.int p4), .val (.int nn), .val (.int d1), .val (.int d2), .val (.int d3), .val (.ref b4), .val (.int (1 : Int32)), .val (.int (1 : Int32)), .val (.ref r_28), .unset, .unset] []))
  refine Goes.pre (fun t kt => XS.aload X28.here hx rfl (hb hby at_139) rfl rfl kt) ?_
  show Goes p e below s _ _ _ (T28.setTop (mkF m 141 #[.val (.int p1), .val (.int p2), .val (.int p3), .val (.int p4), .val (.int nn), .val (.int d1), .val (.int d2), .val (.int d3), .val (.ref b4), .val (.int (1 : Int32)), .val (.int (1 : Int32)), .val (.ref r_28), .unset, .unset] [(.ref r_28)]))
  refine Goes.pre (fun t kt => XS.iconst X28.here hx rfl (hb hby at_141) kt) ?_
  show Goes p e below s _ _ _ (T28.setTop (mkF m 142 #[.val (.int p1), .val (.int p2), .val (.int p3), .val (.int p4), .val (.int nn), .val (.int d1), .val (.int d2), .val (.int d3), .val (.ref b4), .val (.int (1 : Int32)), .val (.int (1 : Int32)), .val (.ref r_28), .unset, .unset] [(.int (0 : Int32)), (.ref r_28)]))
  obtain ⟨cl32, Ar32, aq32, aS32, aN32, aH32, aG32⟩ := V31
  have V32 : Arv Z h28 r_28 kr_28 .int (1 : Int32) [(.int (gg2_26 (0 : Int32)))] (.int (0 : Int32)) := ⟨cl32, Ar32, aq32, aS32, aN32, aH32, aG32⟩
  have hin32 : ¬ ((0 : Int32) < 0 ∨ cl32.slots.size ≤ ((0 : Int32)).toNatClampNeg) := inb_of aS32 ⟨by decide, by decide⟩
  have hat32 : cl32.slots[((0 : Int32)).toNatClampNeg]? = some (.int (gg2_26 (0 : Int32))) := aH32.at hin32 rfl
  refine Goes.pre (X28.iaload hx (j := (0 : Int32)) (v := (.int (gg2_26 (0 : Int32)))) (by rw [e28]; exact Ar32.1) (State.isArrayOf_alike hZ.alike Ar32.2.1) Ar32.2.2 hin32 hat32 (g := (mkF m 142 #[.val (.int p1), .val (.int p2), .val (.int p3), .val (.int p4), .val (.int nn), .val (.int d1), .val (.int d2), .val (.int d3), .val (.ref b4), .val (.int (1 : Int32)), .val (.int (1 : Int32)), .val (.ref r_28), .unset, .unset] [(.int (0 : Int32)), (.ref r_28)])) rfl rfl (hb hby at_142)) ?_
  show Goes p e below s _ _ _ (T28.setTop (mkF m 143 #[.val (.int p1), .val (.int p2), .val (.int p3), .val (.int p4), .val (.int nn), .val (.int d1), .val (.int d2), .val (.int d3), .val (.ref b4), .val (.int (1 : Int32)), .val (.int (1 : Int32)), .val (.ref r_28), .unset, .unset] [(.int (gg2_26 (0 : Int32)))]))
  refine Goes.pre (fun t kt => XS.iload X28.here hx rfl (hb hby at_143) rfl kt) ?_
  show Goes p e below s _ _ _ (T28.setTop (mkF m 145 #[.val (.int p1), .val (.int p2), .val (.int p3), .val (.int p4), .val (.int nn), .val (.int d1), .val (.int d2), .val (.int d3), .val (.ref b4), .val (.int (1 : Int32)), .val (.int (1 : Int32)), .val (.ref r_28), .unset, .unset] [(.int d3), (.int (gg2_26 (0 : Int32)))]))
  refine Goes.pre (fun t kt => XS.icmpNo X28.here hx rfl (hb hby at_145) rfl (Jvm.Free.XT.ii_ne_f (hg0)) kt) ?_
  show Goes p e below s _ _ _ (T28.setTop (mkF m 148 #[.val (.int p1), .val (.int p2), .val (.int p3), .val (.int p4), .val (.int nn), .val (.int d1), .val (.int d2), .val (.int d3), .val (.ref b4), .val (.int (1 : Int32)), .val (.int (1 : Int32)), .val (.ref r_28), .unset, .unset] []))
  refine Goes.pre (fun t kt => XS.iconst X28.here hx rfl (hb hby at_148) kt) ?_
  show Goes p e below s _ _ _ (T28.setTop (mkF m 149 #[.val (.int p1), .val (.int p2), .val (.int p3), .val (.int p4), .val (.int nn), .val (.int d1), .val (.int d2), .val (.int d3), .val (.ref b4), .val (.int (1 : Int32)), .val (.int (1 : Int32)), .val (.ref r_28), .unset, .unset] [(.int (1 : Int32))]))
  refine Goes.pre (fun t kt => XS.goto X28.here hx rfl (pc0 := 149) (pc' := 153) rfl (hb hby at_149) (by decide) (by decide) kt) ?_
  show Goes p e below s _ _ _ (T28.setTop (mkF m 153 #[.val (.int p1), .val (.int p2), .val (.int p3), .val (.int p4), .val (.int nn), .val (.int d1), .val (.int d2), .val (.int d3), .val (.ref b4), .val (.int (1 : Int32)), .val (.int (1 : Int32)), .val (.ref r_28), .unset, .unset] [(.int (1 : Int32))]))
  refine Goes.pre (fun t kt => XS.istore X28.here hx rfl (hb hby at_153) rfl (l' := #[.val (.int p1), .val (.int p2), .val (.int p3), .val (.int p4), .val (.int nn), .val (.int d1), .val (.int d2), .val (.int d3), .val (.ref b4), .val (.int (1 : Int32)), .val (.int (1 : Int32)), .val (.ref r_28), .val (.int (1 : Int32)), .unset]) rfl kt) ?_
  show Goes p e below s _ _ _ (T28.setTop (mkF m 155 #[.val (.int p1), .val (.int p2), .val (.int p3), .val (.int p4), .val (.int nn), .val (.int d1), .val (.int d2), .val (.int d3), .val (.ref b4), .val (.int (1 : Int32)), .val (.int (1 : Int32)), .val (.ref r_28), .val (.int (1 : Int32)), .unset] []))
  refine Goes.pre (fun t kt => XS.aload X28.here hx rfl (hb hby at_155) rfl rfl kt) ?_
  show Goes p e below s _ _ _ (T28.setTop (mkF m 157 #[.val (.int p1), .val (.int p2), .val (.int p3), .val (.int p4), .val (.int nn), .val (.int d1), .val (.int d2), .val (.int d3), .val (.ref b4), .val (.int (1 : Int32)), .val (.int (1 : Int32)), .val (.ref r_28), .val (.int (1 : Int32)), .unset] [(.ref b4)]))
  refine Goes.pre (fun t kt => XS.iload X28.here hx rfl (hb hby at_157) rfl kt) ?_
  show Goes p e below s _ _ _ (T28.setTop (mkF m 159 #[.val (.int p1), .val (.int p2), .val (.int p3), .val (.int p4), .val (.int nn), .val (.int d1), .val (.int d2), .val (.int d3), .val (.ref b4), .val (.int (1 : Int32)), .val (.int (1 : Int32)), .val (.ref r_28), .val (.int (1 : Int32)), .unset] [(.int d3), (.ref b4)]))
  have fc33 : Exa Z h28 b4 "com/example/nosograph/nosograph/ranking/DocumentSums" := (fc30.keep Kq28)
  have fc34 : Fld Z h28 b4 "com/example/nosograph/nosograph/ranking/DocumentSums" "table" "[I" (.ref ta_5) := (pq26_0.keep Kq28 nin0)
  have fc35 : Fld Z h28 b4 "com/example/nosograph/nosograph/ranking/DocumentSums" "shift" "I" (.int (28 : Int32)) := (pq26_1.keep Kq28 nin0)
  have fc36 : Fld Z h28 b4 "com/example/nosograph/nosograph/ranking/DocumentSums" "documents" "[I" (.ref da_5) := (pq26_2.keep Kq28 nin0)
  have fc37 : Fld Z h28 b4 "com/example/nosograph/nosograph/ranking/DocumentSums" "sums" "[D" (.ref sa_5) := (pq26_3.keep Kq28 nin0)
  have fc38 : OwnI Z h28 ta_5 (16 : Int32) ff2_26 := (pq26_7.keep Kq28 nin0)
  have fc39 : OwnI Z h28 da_5 (8 : Int32) gg2_26 := (pq26_8.keep Kq28 nin0)
  have fc40 : OwnD Z h28 sa_5 (8 : Int32) FF2_26 := (pq26_9.keep Kq28 nin0)
  obtain ⟨cq42, kq42, qa42, qb42, qc42⟩ := isOf hZ e28 fc33
  obtain ⟨_, _, ⟨T41, L41, k41, n41⟩, -, X41, ⟨Lc41, hQ41, l41, y41, z41⟩, st41⟩ := X28.virtualBack hx (y := (⟨"com/example/nosograph/nosograph/ranking/DocumentSums", "get", "(I)D"⟩ : MethodName)) (z := (⟨"com/example/nosograph/nosograph/ranking/DocumentSums", "get", "(I)D"⟩ : MethodName)) hown (mvT hZ (hw _ (List.mem_of_getElem? (i := 85) rfl))) (mvT hZ (hw _ (List.mem_of_getElem? (i := 86) rfl))) (notFace_of_selects (args := #[]) (mvT hZ (hw _ (List.mem_of_getElem? (i := 88) rfl)))) (mvT hZ (hw _ (List.mem_of_getElem? (i := 88) rfl))) (mvT hZ (hw _ (List.mem_of_getElem? (i := 87) rfl))) (by decide) (backOf (W := 0) (rmget l Z a0 hw [] b4 d3 ta_5 da_5 sa_5 ff2_26 gg2_26 FF2_26 n2_26 (own_plus (fun _ => 0) d3 8) h28 n0 Z28 fc33 fc34 fc35 fc36 fc37 fc38 fc39 fc40 (hR_n2_26)) hZ (hw _ (List.mem_of_getElem? (i := 89) rfl)) (hw _ (List.mem_of_getElem? (i := 7) rfl)) (by decide) (by decide)) qa42 qc42 (g := (mkF m 159 #[.val (.int p1), .val (.int p2), .val (.int p3), .val (.int p4), .val (.int nn), .val (.int d1), .val (.int d2), .val (.int d3), .val (.ref b4), .val (.int (1 : Int32)), .val (.int (1 : Int32)), .val (.ref r_28), .val (.int (1 : Int32)), .unset] [(.int d3), (.ref b4)])) rfl (by rw [hml]; rfl) (Steps.refl _) (argsL := [(.int d3)]) (rest := []) (lenOf pd_15 rfl) rfl (by show 2 * 0 + _ ≤ _; exact Nat.le_of_eq rfl) (hb hby at_159) (fun _ _ => ⟨rfl, e28, (by decide : 6 + 0 ≤ _), (by decide : 48 + 0 ≤ _)⟩)
  dsimp only [Pt.U, Pt.locs, Pt.cells, Pt.slots] at X41 l41 y41 z41 st41 hQ41
  subst l41 y41 z41
  obtain ⟨rfl, Nq41, eq41⟩ := hQ41
  refine Goes.run st41 ?_
  have N41 := Fr.app N28 Nq41
  show Goes p e below s _ _ _ (T41.setTop (mkF m 162 #[.val (.int p1), .val (.int p2), .val (.int p3), .val (.int p4), .val (.int nn), .val (.int d1), .val (.int d2), .val (.int d3), .val (.ref b4), .val (.int (1 : Int32)), .val (.int (1 : Int32)), .val (.ref r_28), .val (.int (1 : Int32)), .unset] [(.double (FP.l2d ((own_plus (fun _ => 0) d3 8) d3)))]))
  refine Goes.pre (X41.ldc2DoubleC hx hown (mvT hZ (hw _ (List.mem_of_getElem? (i := 69) rfl))) (g := (mkF m 162 #[.val (.int p1), .val (.int p2), .val (.int p3), .val (.int p4), .val (.int nn), .val (.int d1), .val (.int d2), .val (.int d3), .val (.ref b4), .val (.int (1 : Int32)), .val (.int (1 : Int32)), .val (.ref r_28), .val (.int (1 : Int32)), .unset] [(.double (FP.l2d ((own_plus (fun _ => 0) d3 8) d3)))])) rfl (hb hby at_162)) ?_
  rw [show (4620693217682128896 : UInt64) = FP.l2d 8 from by decide +kernel]
  show Goes p e below s _ _ _ (T41.setTop (mkF m 165 #[.val (.int p1), .val (.int p2), .val (.int p3), .val (.int p4), .val (.int nn), .val (.int d1), .val (.int d2), .val (.int d3), .val (.ref b4), .val (.int (1 : Int32)), .val (.int (1 : Int32)), .val (.ref r_28), .val (.int (1 : Int32)), .unset] [(.double (FP.l2d 8)), (.double (FP.l2d ((own_plus (fun _ => 0) d3 8) d3)))]))
  refine Goes.pre (fun t kt => XS.dcmpS X41.here hx rfl (hb hby at_165) rfl (v := (0 : Int32)) (dcmpV_eq (congrArg FP.l2d (by rw [own_plus_eq rfl]; rfl)) (nn_w rfl) _) kt) ?_
  show Goes p e below s _ _ _ (T41.setTop (mkF m 166 #[.val (.int p1), .val (.int p2), .val (.int p3), .val (.int p4), .val (.int nn), .val (.int d1), .val (.int d2), .val (.int d3), .val (.ref b4), .val (.int (1 : Int32)), .val (.int (1 : Int32)), .val (.ref r_28), .val (.int (1 : Int32)), .unset] [(.int (0 : Int32))]))
  refine Goes.pre (fun t kt => XS.ifNo X41.here hx rfl (hb hby at_166) rfl (Jvm.Free.XT.i0_ne_f ((by decide))) kt) ?_
  show Goes p e below s _ _ _ (T41.setTop (mkF m 169 #[.val (.int p1), .val (.int p2), .val (.int p3), .val (.int p4), .val (.int nn), .val (.int d1), .val (.int d2), .val (.int d3), .val (.ref b4), .val (.int (1 : Int32)), .val (.int (1 : Int32)), .val (.ref r_28), .val (.int (1 : Int32)), .unset] []))
  refine Goes.pre (fun t kt => XS.iconst X41.here hx rfl (hb hby at_169) kt) ?_
  show Goes p e below s _ _ _ (T41.setTop (mkF m 170 #[.val (.int p1), .val (.int p2), .val (.int p3), .val (.int p4), .val (.int nn), .val (.int d1), .val (.int d2), .val (.int d3), .val (.ref b4), .val (.int (1 : Int32)), .val (.int (1 : Int32)), .val (.ref r_28), .val (.int (1 : Int32)), .unset] [(.int (1 : Int32))]))
  refine Goes.pre (fun t kt => XS.goto X41.here hx rfl (pc0 := 170) (pc' := 174) rfl (hb hby at_170) (by decide) (by decide) kt) ?_
  show Goes p e below s _ _ _ (T41.setTop (mkF m 174 #[.val (.int p1), .val (.int p2), .val (.int p3), .val (.int p4), .val (.int nn), .val (.int d1), .val (.int d2), .val (.int d3), .val (.ref b4), .val (.int (1 : Int32)), .val (.int (1 : Int32)), .val (.ref r_28), .val (.int (1 : Int32)), .unset] [(.int (1 : Int32))]))
  refine Goes.pre (fun t kt => XS.istore X41.here hx rfl (hb hby at_174) rfl (l' := #[.val (.int p1), .val (.int p2), .val (.int p3), .val (.int p4), .val (.int nn), .val (.int d1), .val (.int d2), .val (.int d3), .val (.ref b4), .val (.int (1 : Int32)), .val (.int (1 : Int32)), .val (.ref r_28), .val (.int (1 : Int32)), .val (.int (1 : Int32))]) rfl kt) ?_
  show Goes p e below s _ _ _ (T41.setTop (mkF m 176 #[.val (.int p1), .val (.int p2), .val (.int p3), .val (.int p4), .val (.int nn), .val (.int d1), .val (.int d2), .val (.int d3), .val (.ref b4), .val (.int (1 : Int32)), .val (.int (1 : Int32)), .val (.ref r_28), .val (.int (1 : Int32)), .val (.int (1 : Int32))] []))
  refine Goes.pre (fun t kt => XS.iload X41.here hx rfl (hb hby at_176) rfl kt) ?_
  show Goes p e below s _ _ _ (T41.setTop (mkF m 178 #[.val (.int p1), .val (.int p2), .val (.int p3), .val (.int p4), .val (.int nn), .val (.int d1), .val (.int d2), .val (.int d3), .val (.ref b4), .val (.int (1 : Int32)), .val (.int (1 : Int32)), .val (.ref r_28), .val (.int (1 : Int32)), .val (.int (1 : Int32))] [(.int (1 : Int32))]))
  refine Goes.pre (fun t kt => XS.ifNo X41.here hx rfl (hb hby at_178) rfl (Jvm.Free.XT.i0_eq_f ((by decide))) kt) ?_
  show Goes p e below s _ _ _ (T41.setTop (mkF m 181 #[.val (.int p1), .val (.int p2), .val (.int p3), .val (.int p4), .val (.int nn), .val (.int d1), .val (.int d2), .val (.int d3), .val (.ref b4), .val (.int (1 : Int32)), .val (.int (1 : Int32)), .val (.ref r_28), .val (.int (1 : Int32)), .val (.int (1 : Int32))] []))
  refine Goes.pre (fun t kt => XS.iload X41.here hx rfl (hb hby at_181) rfl kt) ?_
  show Goes p e below s _ _ _ (T41.setTop (mkF m 183 #[.val (.int p1), .val (.int p2), .val (.int p3), .val (.int p4), .val (.int nn), .val (.int d1), .val (.int d2), .val (.int d3), .val (.ref b4), .val (.int (1 : Int32)), .val (.int (1 : Int32)), .val (.ref r_28), .val (.int (1 : Int32)), .val (.int (1 : Int32))] [(.int (1 : Int32))]))
  refine Goes.pre (fun t kt => XS.ifNo X41.here hx rfl (hb hby at_183) rfl (Jvm.Free.XT.i0_eq_f ((by decide))) kt) ?_
  show Goes p e below s _ _ _ (T41.setTop (mkF m 186 #[.val (.int p1), .val (.int p2), .val (.int p3), .val (.int p4), .val (.int nn), .val (.int d1), .val (.int d2), .val (.int d3), .val (.ref b4), .val (.int (1 : Int32)), .val (.int (1 : Int32)), .val (.ref r_28), .val (.int (1 : Int32)), .val (.int (1 : Int32))] []))
  refine Goes.pre (fun t kt => XS.iload X41.here hx rfl (hb hby at_186) rfl kt) ?_
  show Goes p e below s _ _ _ (T41.setTop (mkF m 188 #[.val (.int p1), .val (.int p2), .val (.int p3), .val (.int p4), .val (.int nn), .val (.int d1), .val (.int d2), .val (.int d3), .val (.ref b4), .val (.int (1 : Int32)), .val (.int (1 : Int32)), .val (.ref r_28), .val (.int (1 : Int32)), .val (.int (1 : Int32))] [(.int (1 : Int32))]))
  refine Goes.pre (fun t kt => XS.ifNo X41.here hx rfl (hb hby at_188) rfl (Jvm.Free.XT.i0_eq_f ((by decide))) kt) ?_
  show Goes p e below s _ _ _ (T41.setTop (mkF m 191 #[.val (.int p1), .val (.int p2), .val (.int p3), .val (.int p4), .val (.int nn), .val (.int d1), .val (.int d2), .val (.int d3), .val (.ref b4), .val (.int (1 : Int32)), .val (.int (1 : Int32)), .val (.ref r_28), .val (.int (1 : Int32)), .val (.int (1 : Int32))] []))
  refine Goes.pre (fun t kt => XS.iload X41.here hx rfl (hb hby at_191) rfl kt) ?_
  show Goes p e below s _ _ _ (T41.setTop (mkF m 193 #[.val (.int p1), .val (.int p2), .val (.int p3), .val (.int p4), .val (.int nn), .val (.int d1), .val (.int d2), .val (.int d3), .val (.ref b4), .val (.int (1 : Int32)), .val (.int (1 : Int32)), .val (.ref r_28), .val (.int (1 : Int32)), .val (.int (1 : Int32))] [(.int (1 : Int32))]))
  refine Goes.pre (fun t kt => XS.ifNo X41.here hx rfl (hb hby at_193) rfl (Jvm.Free.XT.i0_eq_f ((by decide))) kt) ?_
  show Goes p e below s _ _ _ (T41.setTop (mkF m 196 #[.val (.int p1), .val (.int p2), .val (.int p3), .val (.int p4), .val (.int nn), .val (.int d1), .val (.int d2), .val (.int d3), .val (.ref b4), .val (.int (1 : Int32)), .val (.int (1 : Int32)), .val (.ref r_28), .val (.int (1 : Int32)), .val (.int (1 : Int32))] []))
  refine Goes.pre (fun t kt => XS.iconst X41.here hx rfl (hb hby at_196) kt) ?_
  show Goes p e below s _ _ _ (T41.setTop (mkF m 197 #[.val (.int p1), .val (.int p2), .val (.int p3), .val (.int p4), .val (.int nn), .val (.int d1), .val (.int d2), .val (.int d3), .val (.ref b4), .val (.int (1 : Int32)), .val (.int (1 : Int32)), .val (.ref r_28), .val (.int (1 : Int32)), .val (.int (1 : Int32))] [(.int (1 : Int32))]))
  refine Goes.pre (fun t kt => XS.goto X41.here hx rfl (pc0 := 197) (pc' := 201) rfl (hb hby at_197) (by decide) (by decide) kt) ?_
  show Goes p e below s _ _ _ (T41.setTop (mkF m 201 #[.val (.int p1), .val (.int p2), .val (.int p3), .val (.int p4), .val (.int nn), .val (.int d1), .val (.int d2), .val (.int d3), .val (.ref b4), .val (.int (1 : Int32)), .val (.int (1 : Int32)), .val (.ref r_28), .val (.int (1 : Int32)), .val (.int (1 : Int32))] [(.int (1 : Int32))]))
  refine Goes.ret X41 (some (.int (1 : Int32))) (fun h => by rw [Bd.returns] at h; cases h) (BodyLoose.notSynchronized Bd) (by decide) (by decide) (fun fs hr => retN X41 hx (t := .boolean) Bd.returns (by simp) (hb hby at_201) hr) ?_
  show Q_rm0 Z p1 p2 p3 p4 h0 n0 _ T41.heap _
  rw [eq41]
  exact ⟨rfl, N41⟩
set_option maxRecDepth 65536 in
set_option maxHeartbeats 40000000 in
theorem comes_1 {Post : Tables → Env → Array Value → State → Outcome → State → Prop} (hpost : ∀ tb e args s v u, (limb_1_1.after args s (.returned v) u = true ∧ limb_1_2.after args s (.returned v) u = true ∧ True) → FrameEnd s (.returned v) u (Jvm.fieldLocs frame_1_writes args s ++ Jvm.arrayLocs frame_1_arrays args s ++ Jvm.staticLocs frame_1_statics s) 24 192 → Post tb e args s (.returned v) u) :
    ArmFor flags0 classFile x code maxLocals ret World_1 tables_1 room_1 Calls_1 rest_1 Pre_1 Post := by
  intro l hfl _ _ p e ha hc hk s m args below hf hA hF happ hP
  obtain ⟨hcalls, hrest, hpre⟩ := hP
  obtain ⟨-, -, -, hnamed, -, -, -, hat⟩ := (Spec.applies_iff hf).mp happ
  obtain ⟨hg, hn⟩ := and_e (Cond.before_iff.mp (show (Jvm.Cond.and given_1 narrow_1).before args s = true from hpre))
  obtain ⟨gv1, gv2⟩ := and_e hg
  obtain ⟨gv3, gv4⟩ := and_e gv2
  obtain ⟨gv5, gv6⟩ := and_e gv4
  obtain ⟨gv7, gv8⟩ := and_e gv6
  obtain ⟨w0, w1, w2, w3, rfl⟩ : ∃ w0 w1 w2 w3 : Value, args = #[w0, w1, w2, w3] := by
    have hs : args.size = 4 := by simpa [Cond.value, given_1] using gv1
    obtain ⟨L⟩ := args
    match L, hs with
    | [w0, w1, w2, w3], _ => exact ⟨w0, w1, w2, w3, rfl⟩
  have hw := fun d (hd : d ∈ tables_1) => atoms_spec (ws := Jvm.Cond.code x code maxLocals ret :: tables_1) hat d (List.mem_cons_of_mem _ hd)
  have hfit : Fit s := fun {y c} hc i hi => by
    obtain ⟨ha, rfl⟩ := Array.getElem?_eq_some_iff.mp hc
    have q := List.all_eq_true.mp ((Array.all_eq_true_iff_forall_mem.mp hF) _ (Array.getElem_mem ha)) i (List.mem_range.mpr hi)
    simpa [Array.getElem?_eq_getElem hi] using q
  obtain ⟨i0, ei0⟩ := is_v gv3
  obtain rfl : w0 = (.int i0) := Option.some.inj ei0
  obtain ⟨i1, ei1⟩ := is_v gv5
  obtain rfl : w1 = (.int i1) := Option.some.inj ei1
  obtain ⟨i2, ei2⟩ := is_v gv7
  obtain rfl : w2 = (.int i2) := Option.some.inj ei2
  obtain ⟨i3, ei3⟩ := is_v gv8
  obtain rfl : w3 = (.int i3) := Option.some.inj ei3
  obtain ⟨n, o, h1, h2, h3, _, L, rfl, ⟨rfl, N⟩, hq⟩ := rm0 l s _ hw tables_1 i0 i1 i2 i3  s.heap s.heap.size (Nat.le_refl _)  p e ha hc hk s m _ below hf ((Spec.applies_iff_loose hf).mp happ).1 ⟨rfl, State.Warmed39.refl s, rfl⟩ trivial
  refine ⟨n, _, h1, h2, h3, hpost _ _ _ _ _ _ ⟨Cond.after_iff.mpr rfl, Cond.after_iff.mpr (eq_i res_at (Term.int_eval (1)) rfl), trivial⟩ ⟨hq.1, hq.2.1, (hq.2.2.sift fun y hy => Or.inr (N y hy)).mono (by decide) (by decide)⟩⟩
theorem main_1_1 : Claimed_1_1 := comes_1 fun _ _ _ _ _ _ h hF => ⟨h.1, hF⟩
theorem main_1_2 : Claimed_1_2 := comes_1 fun _ _ _ _ _ _ h hF => ⟨h.2.1, hF⟩
end Jvm.Pilot.@@N@@
namespace Jvm.Pilot.@@N@@
open Jvm Jvm.ClassFile Sem Op Lib Jvm.Free Jvm.Stand Jvm.Pilot.@@N@@.Jvm.D
/-! MADE BY PROGRAM (witnessworld.py) out of the Statement's table words and the real class files: 21 classes; the members and pool entries that the words name. The judged class is class 1, her method 1. -/
namespace start1
open Jvm.ClassFile
def u (s : String) : CpInfo := .utf8 (stringToUtf16 s)
/-- a pool by its gaps: so many unusable entries, then the entry; so many at the end -/
def gap : Nat → List CpInfo → List CpInfo
  | 0, r => r
  | n + 1, r => .unusable :: gap n r
def poolList (es : List (Nat × CpInfo)) (last : Nat) : List CpInfo := es.foldr (fun e r => gap e.1 (e.2 :: r)) (gap last [])
def pool (es : List (Nat × CpInfo)) (last : Nat) : Array CpInfo := ⟨poolList es last⟩
def fileOf (pool : Array CpInfo) (this : Nat) (attrs : Array Attribute := #[]) (ms : Array MethodInfo := #[]) (fl : Nat := 33) (sup : Nat := 0) (ifs : Array Nat := #[]) (fds : Array FieldInfo := #[]) : ClassFile where
  minorVersion := 0
  majorVersion := 65
  constantPool := pool
  accessFlags := fl
  thisClass := this
  superClass := sup
  interfaces := ifs
  fields := fds
  methods := ms
  attributes := attrs
def plain (name : String) (sup : Option ClassId) : Class where
  name := name
  kind := .ordinary
  loader := none
  accessFlags := 33
  super := sup
  interfaces := #[]
  cf := none
  fields := #[]
  methods := #[]
  instanceTypes := #[]
  staticTypes := #[]
  resolved := #[]
  callSites := []
  init := .initialized
  statics := none
  mirror := none

def pool0 : Array CpInfo := pool [(5, u "<init>"), (0, u "()V"), (1, .class_ 10), (1, u "java/lang/Object")] 113

def k0c0 : Code := { maxStack := 0, maxLocals := 1, code := object_method_1_code, exceptionTable := #[], attributes := #[] }
def k0m0 : Method := { name := "<init>", desc := "()V", sig := { parameters := [], returnType := none }, accessFlags := 1, code := some k0c0 }
/-- java/lang/Object -/
def k0 : Class := { plain "java/lang/Object" none with
  accessFlags := 33
  interfaces := #[]
  cf := some (fileOf pool0 8 #[] #[{ accessFlags := 1, nameIndex := 5, descriptorIndex := 6, attributes := #[] }] 33 0 #[] #[])
  fields := #[]
  methods := #[k0m0]
  instanceTypes := #[]
  staticTypes := #[]
  resolved := Array.replicate 124 none
  statics := none }

def pool1 : Array CpInfo := pool [(2, .class_ 4), (1, u "java/lang/Object"), (0, u "<init>"), (0, u "()V"), (0, .integer 2147483647), (0, .methodref 9 10), (0, .class_ 11), (0, .nameAndType 12 13), (0, u "java/lang/Math"), (0, u "max"), (0, u "(II)I"), (0, .class_ 15), (0, u "com/example/nosograph/nosograph/ranking/DocumentSums"), (0, .methodref 14 17), (0, .nameAndType 5 18), (0, u "(I)V"), (0, .methodref 14 20), (0, .nameAndType 21 22), (0, u "add"), (0, u "(ID)V"), (0, .double 4611686018427387904), (1, .double 4616189618054758400), (1, .methodref 14 28), (0, .nameAndType 29 6), (0, u "clear"), (0, .methodref 14 31), (0, .nameAndType 32 33), (0, u "holds"), (0, u "(I)Z"), (0, .double 4620693217682128896), (1, .methodref 14 37), (0, .nameAndType 38 39), (0, u "documents"), (0, u "()[I"), (0, .methodref 14 41), (0, .nameAndType 42 43), (0, u "get"), (0, u "(I)D"), (0, .class_ 45), (0, u "com/example/nosograph/nosograph/ranking/DocumentSumsClearPinLaw"), (2, u "law"), (0, u "(IIII)Z")] 5

def k1m0 : Method := { name := "<init>", desc := "()V", sig := { parameters := [], returnType := none }, accessFlags := 1, code := none }
def k1c1 : Code := { maxStack := 4, maxLocals := 14, code := code, exceptionTable := #[], attributes := #[] }
def k1m1 : Method := { name := "law", desc := "(IIII)Z", sig := { parameters := [.int, .int, .int, .int], returnType := some .boolean }, accessFlags := 9, code := some k1c1 }
/-- com/example/nosograph/nosograph/ranking/DocumentSumsClearPinLaw -/
def k1 : Class := { plain "com/example/nosograph/nosograph/ranking/DocumentSumsClearPinLaw" (some 0) with
  accessFlags := 49
  interfaces := #[]
  cf := some (fileOf pool1 44 #[] #[{ accessFlags := 1, nameIndex := 5, descriptorIndex := 6, attributes := #[] }, { accessFlags := 9, nameIndex := 48, descriptorIndex := 49, attributes := #[] }] 49 2 #[] #[])
  fields := #[]
  methods := #[k1m0, k1m1]
  instanceTypes := #[]
  staticTypes := #[]
  resolved := Array.replicate 55 none
  statics := none }

def pool2 : Array CpInfo := pool [(1, .class_ 2), (0, u "java/lang/Math"), (1, .class_ 6), (1, u "java/lang/Object"), (0, u "<init>"), (0, u "()V"), (89, .class_ 100), (1, u "java/lang/Math$RandomNumberGeneratorHolder"), (71, u "negativeZeroFloatBits"), (0, u "J"), (2, u "negativeZeroDoubleBits"), (21, u "max"), (2, u "min"), (43, u "$assertionsDisabled"), (0, u "Z"), (88, u "(II)I"), (2, u "twoToTheDoubleScaleDown"), (0, u "D"), (4, u "twoToTheDoubleScaleUp"), (9, u "E"), (3, u "PI"), (2, u "TAU"), (2, u "DEGREES_TO_RADIANS"), (0, u "RADIANS_TO_DEGREES")] 94

def k2m0 : Method := { name := "<init>", desc := "()V", sig := { parameters := [], returnType := none }, accessFlags := 2, code := none }
def k2c1 : Code := { maxStack := 2, maxLocals := 2, code := jdk_29_method_65_code, exceptionTable := #[], attributes := #[] }
def k2m1 : Method := { name := "max", desc := "(II)I", sig := { parameters := [.int, .int], returnType := some .int }, accessFlags := 9, code := some k2c1 }
def k2c2 : Code := { maxStack := 2, maxLocals := 2, code := jdk_29_method_69_code, exceptionTable := #[], attributes := #[] }
def k2m2 : Method := { name := "min", desc := "(II)I", sig := { parameters := [.int, .int], returnType := some .int }, accessFlags := 9, code := some k2c2 }
/-- java/lang/Math -/
def k2 : Class := { plain "java/lang/Math" (some 0) with
  accessFlags := 49
  interfaces := #[]
  cf := some (fileOf pool2 1 #[.nestMembers #[98]] #[{ accessFlags := 2, nameIndex := 7, descriptorIndex := 8, attributes := #[] }, { accessFlags := 9, nameIndex := 198, descriptorIndex := 335, attributes := #[] }, { accessFlags := 9, nameIndex := 201, descriptorIndex := 335, attributes := #[] }] 49 4 #[] #[{ accessFlags := 25, nameIndex := 354, descriptorIndex := 339, attributes := #[] }, { accessFlags := 25, nameIndex := 358, descriptorIndex := 339, attributes := #[] }, { accessFlags := 25, nameIndex := 361, descriptorIndex := 339, attributes := #[] }, { accessFlags := 26, nameIndex := 364, descriptorIndex := 339, attributes := #[] }, { accessFlags := 26, nameIndex := 365, descriptorIndex := 339, attributes := #[] }, { accessFlags := 26, nameIndex := 172, descriptorIndex := 173, attributes := #[] }, { accessFlags := 26, nameIndex := 176, descriptorIndex := 173, attributes := #[] }, { accessFlags := 8, nameIndex := 344, descriptorIndex := 339, attributes := #[] }, { accessFlags := 8, nameIndex := 338, descriptorIndex := 339, attributes := #[] }, { accessFlags := 4120, nameIndex := 245, descriptorIndex := 246, attributes := #[] }])
  fields := #[{ name := "E", type := .double, accessFlags := 25, slot := 0, constantValue := 0 }, { name := "PI", type := .double, accessFlags := 25, slot := 1, constantValue := 0 }, { name := "TAU", type := .double, accessFlags := 25, slot := 2, constantValue := 0 }, { name := "DEGREES_TO_RADIANS", type := .double, accessFlags := 26, slot := 3, constantValue := 0 }, { name := "RADIANS_TO_DEGREES", type := .double, accessFlags := 26, slot := 4, constantValue := 0 }, { name := "negativeZeroFloatBits", type := .long, accessFlags := 26, slot := 5, constantValue := 0 }, { name := "negativeZeroDoubleBits", type := .long, accessFlags := 26, slot := 6, constantValue := 0 }, { name := "twoToTheDoubleScaleUp", type := .double, accessFlags := 8, slot := 7, constantValue := 0 }, { name := "twoToTheDoubleScaleDown", type := .double, accessFlags := 8, slot := 8, constantValue := 0 }, { name := "$assertionsDisabled", type := .boolean, accessFlags := 4120, slot := 9, constantValue := 0 }]
  methods := #[k2m0, k2m1, k2m2]
  instanceTypes := #[]
  staticTypes := #[.double, .double, .double, .double, .double, .long, .long, .double, .double, .boolean]
  resolved := Array.replicate 460 none
  statics := none }

def pool3 : Array CpInfo := pool [(1, .methodref 2 3), (0, .class_ 4), (0, .nameAndType 5 6), (0, u "java/lang/Object"), (0, u "<init>"), (0, u "()V"), (0, .class_ 8), (0, u "com/example/nosograph/nosograph/ranking/DocumentSums"), (0, .fieldref 7 10), (0, .nameAndType 11 12), (0, u "table"), (0, u "[I"), (0, .class_ 14), (0, u "java/lang/Integer"), (0, .methodref 13 16), (0, .nameAndType 17 18), (0, u "numberOfTrailingZeros"), (0, u "(I)I"), (0, .fieldref 7 20), (0, .nameAndType 21 22), (0, u "shift"), (0, u "I"), (0, .fieldref 7 24), (0, .nameAndType 25 12), (0, u "documents"), (0, .fieldref 7 27), (0, .nameAndType 28 29), (0, u "sums"), (0, u "[D"), (0, .fieldref 7 31), (0, .nameAndType 32 12), (0, u "slots"), (0, .fieldref 7 34), (0, .nameAndType 35 22), (0, u "documentCount"), (0, .methodref 37 38), (0, .class_ 39), (0, .nameAndType 40 41), (0, u "java/util/Arrays"), (0, u "fill"), (0, u "([II)V"), (0, .methodref 43 44), (0, .class_ 45), (0, .nameAndType 46 47), (0, u "java/util/Objects"), (0, u "checkIndex"), (0, u "(II)I"), (0, .methodref 7 49), (0, .nameAndType 50 18), (0, u "slot"), (0, .fieldref 7 52), (0, .nameAndType 53 22), (0, u "count"), (3, .methodref 37 58), (0, .nameAndType 59 60), (0, u "copyOf"), (0, u "([II)[I"), (0, .integer 2654435769), (3, u "EMPTY"), (2, u "FIRST_TABLE_SIZE"), (1, u "(I)V"), (2, u "add"), (0, u "(ID)V"), (1, u "get"), (0, u "(I)D"), (0, u "holds"), (0, u "(I)Z"), (0, u "()[I"), (0, u "clear")] 2

def k3c0 : Code := { maxStack := 3, maxLocals := 2, code := prog_56_method_1_code, exceptionTable := #[], attributes := #[] }
def k3m0 : Method := { name := "<init>", desc := "(I)V", sig := { parameters := [.int], returnType := none }, accessFlags := 0, code := some k3c0 }
def k3c1 : Code := { maxStack := 6, maxLocals := 5, code := prog_56_method_2_code, exceptionTable := #[], attributes := #[] }
def k3m1 : Method := { name := "add", desc := "(ID)V", sig := { parameters := [.int, .double], returnType := none }, accessFlags := 0, code := some k3c1 }
def k3c2 : Code := { maxStack := 3, maxLocals := 3, code := prog_56_method_3_code, exceptionTable := #[], attributes := #[] }
def k3m2 : Method := { name := "get", desc := "(I)D", sig := { parameters := [.int], returnType := some .double }, accessFlags := 0, code := some k3c2 }
def k3c3 : Code := { maxStack := 3, maxLocals := 2, code := prog_56_method_4_code, exceptionTable := #[], attributes := #[] }
def k3m3 : Method := { name := "holds", desc := "(I)Z", sig := { parameters := [.int], returnType := some .boolean }, accessFlags := 0, code := some k3c3 }
def k3c4 : Code := { maxStack := 2, maxLocals := 1, code := prog_56_method_5_code, exceptionTable := #[], attributes := #[] }
def k3m4 : Method := { name := "documents", desc := "()[I", sig := { parameters := [], returnType := some (.array .int) }, accessFlags := 0, code := some k3c4 }
def k3c5 : Code := { maxStack := 3, maxLocals := 2, code := prog_56_method_6_code, exceptionTable := #[], attributes := #[] }
def k3m5 : Method := { name := "clear", desc := "()V", sig := { parameters := [], returnType := none }, accessFlags := 0, code := some k3c5 }
def k3c6 : Code := { maxStack := 3, maxLocals := 4, code := prog_56_method_7_code, exceptionTable := #[], attributes := #[] }
def k3m6 : Method := { name := "slot", desc := "(I)I", sig := { parameters := [.int], returnType := some .int }, accessFlags := 2, code := some k3c6 }
/-- com/example/nosograph/nosograph/ranking/DocumentSums -/
def k3 : Class := { plain "com/example/nosograph/nosograph/ranking/DocumentSums" (some 0) with
  accessFlags := 48
  interfaces := #[]
  cf := some (fileOf pool3 7 #[] #[{ accessFlags := 0, nameIndex := 5, descriptorIndex := 70, attributes := #[] }, { accessFlags := 0, nameIndex := 73, descriptorIndex := 74, attributes := #[] }, { accessFlags := 0, nameIndex := 76, descriptorIndex := 77, attributes := #[] }, { accessFlags := 0, nameIndex := 78, descriptorIndex := 79, attributes := #[] }, { accessFlags := 0, nameIndex := 25, descriptorIndex := 80, attributes := #[] }, { accessFlags := 0, nameIndex := 81, descriptorIndex := 6, attributes := #[] }, { accessFlags := 2, nameIndex := 50, descriptorIndex := 18, attributes := #[] }] 48 2 #[] #[{ accessFlags := 26, nameIndex := 65, descriptorIndex := 22, attributes := #[] }, { accessFlags := 26, nameIndex := 68, descriptorIndex := 22, attributes := #[] }, { accessFlags := 18, nameIndex := 35, descriptorIndex := 22, attributes := #[] }, { accessFlags := 2, nameIndex := 11, descriptorIndex := 12, attributes := #[] }, { accessFlags := 2, nameIndex := 21, descriptorIndex := 22, attributes := #[] }, { accessFlags := 2, nameIndex := 25, descriptorIndex := 12, attributes := #[] }, { accessFlags := 2, nameIndex := 28, descriptorIndex := 29, attributes := #[] }, { accessFlags := 2, nameIndex := 32, descriptorIndex := 12, attributes := #[] }, { accessFlags := 2, nameIndex := 53, descriptorIndex := 22, attributes := #[] }])
  fields := #[{ name := "EMPTY", type := .int, accessFlags := 26, slot := 0, constantValue := 0 }, { name := "FIRST_TABLE_SIZE", type := .int, accessFlags := 26, slot := 1, constantValue := 0 }, { name := "documentCount", type := .int, accessFlags := 18, slot := 0, constantValue := 0 }, { name := "table", type := (.array .int), accessFlags := 2, slot := 1, constantValue := 0 }, { name := "shift", type := .int, accessFlags := 2, slot := 2, constantValue := 0 }, { name := "documents", type := (.array .int), accessFlags := 2, slot := 3, constantValue := 0 }, { name := "sums", type := (.array .double), accessFlags := 2, slot := 4, constantValue := 0 }, { name := "slots", type := (.array .int), accessFlags := 2, slot := 5, constantValue := 0 }, { name := "count", type := .int, accessFlags := 2, slot := 6, constantValue := 0 }]
  methods := #[k3m0, k3m1, k3m2, k3m3, k3m4, k3m5, k3m6]
  instanceTypes := #[.int, (.array .int), .int, (.array .int), (.array .double), (.array .int), .int]
  staticTypes := #[.int, .int]
  resolved := Array.replicate 84 none
  statics := none }

def pool4 : Array CpInfo := pool [(1, .class_ 2), (0, u "java/io/Serializable"), (0, .class_ 4), (0, u "java/lang/Object")] 2

/-- java/io/Serializable -/
def k4 : Class := { plain "java/io/Serializable" (some 0) with
  accessFlags := 1537
  interfaces := #[]
  cf := some (fileOf pool4 1 #[] #[] 1537 3 #[] #[])
  fields := #[]
  methods := #[]
  instanceTypes := #[]
  staticTypes := #[]
  resolved := Array.replicate 7 none
  statics := none }

def pool5 : Array CpInfo := pool [(2, .class_ 4), (1, u "java/lang/Object"), (0, u "<init>"), (0, u "()V"), (1, .class_ 10), (1, u "java/lang/Number"), (2, .class_ 14), (0, u "java/io/Serializable"), (0, u "serialVersionUID"), (0, u "J")] 20

def k5m0 : Method := { name := "<init>", desc := "()V", sig := { parameters := [], returnType := none }, accessFlags := 1, code := none }
/-- java/lang/Number -/
def k5 : Class := { plain "java/lang/Number" (some 0) with
  accessFlags := 1057
  interfaces := #[4]
  cf := some (fileOf pool5 8 #[] #[{ accessFlags := 1, nameIndex := 5, descriptorIndex := 6, attributes := #[] }] 1057 2 #[13] #[{ accessFlags := 26, nameIndex := 15, descriptorIndex := 16, attributes := #[] }])
  fields := #[{ name := "serialVersionUID", type := .long, accessFlags := 26, slot := 0, constantValue := 0 }]
  methods := #[k5m0]
  instanceTypes := #[]
  staticTypes := #[.long]
  resolved := Array.replicate 37 none
  statics := none }

def pool6 : Array CpInfo := pool [(1, .class_ 2), (0, u "java/lang/Comparable"), (0, .class_ 4), (0, u "java/lang/Object")] 7

/-- java/lang/Comparable -/
def k6 : Class := { plain "java/lang/Comparable" (some 0) with
  accessFlags := 1537
  interfaces := #[]
  cf := some (fileOf pool6 1 #[] #[] 1537 3 #[] #[])
  fields := #[]
  methods := #[]
  instanceTypes := #[]
  staticTypes := #[]
  resolved := Array.replicate 12 none
  statics := none }

def pool7 : Array CpInfo := pool [(1, .class_ 2), (0, u "java/lang/constant/Constable"), (0, .class_ 4), (0, u "java/lang/Object")] 6

/-- java/lang/constant/Constable -/
def k7 : Class := { plain "java/lang/constant/Constable" (some 0) with
  accessFlags := 1537
  interfaces := #[]
  cf := some (fileOf pool7 1 #[] #[] 1537 3 #[] #[])
  fields := #[]
  methods := #[]
  instanceTypes := #[]
  staticTypes := #[]
  resolved := Array.replicate 11 none
  statics := none }

def pool8 : Array CpInfo := pool [(1, .class_ 2), (0, u "java/lang/constant/ConstantDesc"), (0, .class_ 4), (0, u "java/lang/Object")] 32

/-- java/lang/constant/ConstantDesc -/
def k8 : Class := { plain "java/lang/constant/ConstantDesc" (some 0) with
  accessFlags := 1537
  interfaces := #[]
  cf := some (fileOf pool8 1 #[] #[] 1537 3 #[] #[])
  fields := #[]
  methods := #[]
  instanceTypes := #[]
  staticTypes := #[]
  resolved := Array.replicate 37 none
  statics := none }

def pool9 : Array CpInfo := pool [(1, .class_ 2), (0, u "java/lang/Integer"), (16, u "digits"), (0, u "[C"), (33, u "(I)I"), (30, u "DigitOnes"), (0, u "[B"), (2, u "DigitTens"), (99, .class_ 190), (0, u "java/lang/Integer$IntegerCache"), (3, u "I"), (8, .class_ 204), (0, u "java/lang/Number"), (2, u "value"), (56, .integer 65536), (37, u "TYPE"), (0, u "Ljava/lang/Class;"), (0, .class_ 305), (0, u "java/lang/Comparable"), (0, .class_ 307), (0, u "java/lang/constant/Constable"), (0, .class_ 309), (0, u "java/lang/constant/ConstantDesc"), (0, u "MIN_VALUE"), (1, u "MAX_VALUE"), (3, u "SIZE"), (1, u "BYTES"), (1, u "serialVersionUID"), (0, u "J"), (84, u "numberOfTrailingZeros")] 46

def k9c0 : Code := { maxStack := 3, maxLocals := 2, code := jdk_33_method_48_code, exceptionTable := #[], attributes := #[] }
def k9m0 : Method := { name := "numberOfTrailingZeros", desc := "(I)I", sig := { parameters := [.int], returnType := some .int }, accessFlags := 9, code := some k9c0 }
/-- java/lang/Integer -/
def k9 : Class := { plain "java/lang/Integer" (some 5) with
  accessFlags := 49
  interfaces := #[6, 7, 8]
  cf := some (fileOf pool9 1 #[.nestMembers #[189]] #[{ accessFlags := 9, nameIndex := 406, descriptorIndex := 54, attributes := #[] }] 49 203 #[304, 306, 308] #[{ accessFlags := 25, nameIndex := 310, descriptorIndex := 194, attributes := #[] }, { accessFlags := 25, nameIndex := 312, descriptorIndex := 194, attributes := #[] }, { accessFlags := 25, nameIndex := 302, descriptorIndex := 303, attributes := #[] }, { accessFlags := 24, nameIndex := 19, descriptorIndex := 20, attributes := #[] }, { accessFlags := 24, nameIndex := 89, descriptorIndex := 86, attributes := #[] }, { accessFlags := 24, nameIndex := 85, descriptorIndex := 86, attributes := #[] }, { accessFlags := 18, nameIndex := 207, descriptorIndex := 194, attributes := #[] }, { accessFlags := 25, nameIndex := 316, descriptorIndex := 194, attributes := #[] }, { accessFlags := 25, nameIndex := 318, descriptorIndex := 194, attributes := #[] }, { accessFlags := 26, nameIndex := 320, descriptorIndex := 321, attributes := #[] }])
  fields := #[{ name := "MIN_VALUE", type := .int, accessFlags := 25, slot := 0, constantValue := 0 }, { name := "MAX_VALUE", type := .int, accessFlags := 25, slot := 1, constantValue := 0 }, { name := "TYPE", type := (.object "java/lang/Class"), accessFlags := 25, slot := 2, constantValue := 0 }, { name := "digits", type := (.array .char), accessFlags := 24, slot := 3, constantValue := 0 }, { name := "DigitTens", type := (.array .byte), accessFlags := 24, slot := 4, constantValue := 0 }, { name := "DigitOnes", type := (.array .byte), accessFlags := 24, slot := 5, constantValue := 0 }, { name := "value", type := .int, accessFlags := 18, slot := 0, constantValue := 0 }, { name := "SIZE", type := .int, accessFlags := 25, slot := 6, constantValue := 0 }, { name := "BYTES", type := .int, accessFlags := 25, slot := 7, constantValue := 0 }, { name := "serialVersionUID", type := .long, accessFlags := 26, slot := 8, constantValue := 0 }]
  methods := #[k9m0]
  instanceTypes := #[.int]
  staticTypes := #[.int, .int, (.object "java/lang/Class"), (.array .char), (.array .byte), (.array .byte), .int, .int, .long]
  resolved := Array.replicate 453 none
  statics := none }

def pool10 : Array CpInfo := pool [(2, .class_ 4), (1, u "java/lang/Object"), (0, u "<init>"), (0, u "()V"), (7, .class_ 16), (1, u "java/util/Arrays"), (57, .class_ 76), (1, u "java/util/Arrays$NaturalOrder"), (36, .class_ 115), (1, u "java/util/Arrays$LegacyMergeSort"), (1, u "Z"), (32, .methodref 151 152), (0, .class_ 153), (0, .nameAndType 154 155), (0, u "java/lang/System"), (0, u "arraycopy"), (0, u "(Ljava/lang/Object;ILjava/lang/Object;II)V"), (146, u "copyOf"), (1, .methodref 305 306), (0, .class_ 307), (0, .nameAndType 308 309), (0, u "java/lang/Math"), (0, u "min"), (0, u "(II)I"), (65, .class_ 376), (0, u "java/util/Arrays$ArrayList"), (68, u "$assertionsDisabled"), (269, u "MIN_ARRAY_SORT_GRAN"), (0, u "I"), (2, u "INSERTIONSORT_THRESHOLD"), (120, u "fill"), (4, u "([II)V"), (25, u "([II)[I"), (103, .class_ 976), (0, u "java/util/Arrays$ArrayItr")] 52

def k10m0 : Method := { name := "<init>", desc := "()V", sig := { parameters := [], returnType := none }, accessFlags := 2, code := none }
def k10c1 : Code := { maxStack := 3, maxLocals := 4, code := jdk_65_method_103_code, exceptionTable := #[], attributes := #[] }
def k10m1 : Method := { name := "fill", desc := "([II)V", sig := { parameters := [(.array .int), .int], returnType := none }, accessFlags := 9, code := some k10c1 }
def k10c2 : Code := { maxStack := 6, maxLocals := 3, code := jdk_65_method_123_code, exceptionTable := #[], attributes := #[] }
def k10m2 : Method := { name := "copyOf", desc := "([II)[I", sig := { parameters := [(.array .int), .int], returnType := some (.array .int) }, accessFlags := 9, code := some k10c2 }
/-- java/util/Arrays -/
def k10 : Class := { plain "java/util/Arrays" (some 0) with
  accessFlags := 49
  interfaces := #[]
  cf := some (fileOf pool10 14 #[.nestMembers #[975, 375, 113, 74]] #[{ accessFlags := 2, nameIndex := 5, descriptorIndex := 6, attributes := #[] }, { accessFlags := 9, nameIndex := 840, descriptorIndex := 845, attributes := #[] }, { accessFlags := 9, nameIndex := 302, descriptorIndex := 871, attributes := #[] }] 49 2 #[] #[{ accessFlags := 26, nameIndex := 715, descriptorIndex := 716, attributes := #[] }, { accessFlags := 26, nameIndex := 719, descriptorIndex := 716, attributes := #[] }, { accessFlags := 4120, nameIndex := 445, descriptorIndex := 117, attributes := #[] }])
  fields := #[{ name := "MIN_ARRAY_SORT_GRAN", type := .int, accessFlags := 26, slot := 0, constantValue := 0 }, { name := "INSERTIONSORT_THRESHOLD", type := .int, accessFlags := 26, slot := 1, constantValue := 0 }, { name := "$assertionsDisabled", type := .boolean, accessFlags := 4120, slot := 2, constantValue := 0 }]
  methods := #[k10m0, k10m1, k10m2]
  instanceTypes := #[]
  staticTypes := #[.int, .int, .boolean]
  resolved := Array.replicate 1029 none
  statics := none }

def pool11 : Array CpInfo := pool [(2, .class_ 4), (1, u "java/lang/Object"), (0, u "<init>"), (0, u "()V"), (35, .class_ 44), (1, u "java/util/Objects"), (60, .methodref 106 107), (0, .class_ 108), (0, .nameAndType 109 110), (0, u "jdk/internal/util/Preconditions"), (0, u "checkIndex"), (0, u "(IILjava/util/function/BiFunction;)I"), (60, u "(II)I")] 12

def k11m0 : Method := { name := "<init>", desc := "()V", sig := { parameters := [], returnType := none }, accessFlags := 2, code := none }
def k11c1 : Code := { maxStack := 3, maxLocals := 2, code := jdk_31_method_17_code, exceptionTable := #[], attributes := #[] }
def k11m1 : Method := { name := "checkIndex", desc := "(II)I", sig := { parameters := [.int, .int], returnType := some .int }, accessFlags := 9, code := some k11c1 }
/-- java/util/Objects -/
def k11 : Class := { plain "java/util/Objects" (some 0) with
  accessFlags := 49
  interfaces := #[]
  cf := some (fileOf pool11 42 #[] #[{ accessFlags := 2, nameIndex := 5, descriptorIndex := 6, attributes := #[] }, { accessFlags := 9, nameIndex := 109, descriptorIndex := 171, attributes := #[] }] 49 2 #[] #[])
  fields := #[]
  methods := #[k11m0, k11m1]
  instanceTypes := #[]
  staticTypes := #[]
  resolved := Array.replicate 184 none
  statics := none }

def pool12 : Array CpInfo := pool [(2, .class_ 4), (1, u "java/lang/Object"), (0, u "<init>"), (0, u "()V"), (17, .class_ 26), (1, u "jdk/internal/util/Preconditions"), (6, u "checkIndex"), (21, .class_ 56), (0, u "jdk/internal/util/Preconditions$4"), (57, .class_ 115), (0, u "jdk/internal/util/Preconditions$1"), (7, u "SIOOBE_FORMATTER"), (0, u "Ljava/util/function/BiFunction;"), (0, .class_ 126), (0, u "jdk/internal/util/Preconditions$2"), (3, u "AIOOBE_FORMATTER"), (0, .class_ 132), (0, u "jdk/internal/util/Preconditions$3"), (3, u "IOOBE_FORMATTER"), (41, u "(IILjava/util/function/BiFunction;)I")] 15

def k12m0 : Method := { name := "<init>", desc := "()V", sig := { parameters := [], returnType := none }, accessFlags := 1, code := none }
def k12c1 : Code := { maxStack := 3, maxLocals := 3, code := jdk_41_method_11_code, exceptionTable := #[], attributes := #[] }
def k12m1 : Method := { name := "checkIndex", desc := "(IILjava/util/function/BiFunction;)I", sig := { parameters := [.int, .int, (.object "java/util/function/BiFunction")], returnType := some .int }, accessFlags := 9, code := some k12c1 }
/-- jdk/internal/util/Preconditions -/
def k12 : Class := { plain "jdk/internal/util/Preconditions" (some 0) with
  accessFlags := 33
  interfaces := #[]
  cf := some (fileOf pool12 24 #[.nestMembers #[55, 131, 125, 114]] #[{ accessFlags := 1, nameIndex := 5, descriptorIndex := 6, attributes := #[] }, { accessFlags := 9, nameIndex := 33, descriptorIndex := 178, attributes := #[] }] 33 2 #[] #[{ accessFlags := 25, nameIndex := 123, descriptorIndex := 124, attributes := #[] }, { accessFlags := 25, nameIndex := 130, descriptorIndex := 124, attributes := #[] }, { accessFlags := 25, nameIndex := 136, descriptorIndex := 124, attributes := #[] }])
  fields := #[{ name := "SIOOBE_FORMATTER", type := (.object "java/util/function/BiFunction"), accessFlags := 25, slot := 0, constantValue := 0 }, { name := "AIOOBE_FORMATTER", type := (.object "java/util/function/BiFunction"), accessFlags := 25, slot := 1, constantValue := 0 }, { name := "IOOBE_FORMATTER", type := (.object "java/util/function/BiFunction"), accessFlags := 25, slot := 2, constantValue := 0 }]
  methods := #[k12m0, k12m1]
  instanceTypes := #[]
  staticTypes := #[(.object "java/util/function/BiFunction"), (.object "java/util/function/BiFunction"), (.object "java/util/function/BiFunction")]
  resolved := Array.replicate 194 none
  statics := none }

def pool13 : Array CpInfo := pool [(2, .class_ 4), (1, u "java/lang/Object"), (0, u "<init>"), (0, u "()V"), (1, .class_ 10), (1, u "java/lang/System"), (0, u "allowSecurityManager"), (0, u "I"), (16, u "cons"), (0, u "Ljava/io/Console;"), (77, .class_ 110), (1, u "java/lang/System$CallersHolder"), (43, u "initialErrStream"), (0, u "Ljava/io/PrintStream;"), (19, u "security"), (0, u "Ljava/lang/SecurityManager;"), (31, .class_ 209), (0, u "java/lang/System$1"), (7, u "props"), (0, u "Ljava/util/Properties;"), (2, u "lineSeparator"), (0, u "Ljava/lang/String;"), (96, .class_ 321), (1, u "java/lang/System$LoggerFinder"), (5, .class_ 328), (0, u "java/lang/System$Logger"), (67, u "err"), (2, u "out"), (91, u "notSupportedJnuEncoding"), (15, u "in"), (17, u "initialIn"), (0, u "Ljava/io/InputStream;"), (35, u "bootLayer"), (0, u "Ljava/lang/ModuleLayer;"), (99, .class_ 664), (0, u "java/lang/System$2"), (9, u "NEVER"), (2, u "MAYBE"), (49, u "arraycopy"), (0, u "(Ljava/lang/Object;ILjava/lang/Object;II)V"), (72, .class_ 802), (0, u "java/lang/System$Logger$Level")] 31

def k13m0 : Method := { name := "<init>", desc := "()V", sig := { parameters := [], returnType := none }, accessFlags := 2, code := none }
def k13m1 : Method := { name := "arraycopy", desc := "(Ljava/lang/Object;ILjava/lang/Object;II)V", sig := { parameters := [(.object "java/lang/Object"), .int, (.object "java/lang/Object"), .int, .int], returnType := none }, accessFlags := 265, code := none }
/-- java/lang/System -/
def k13 : Class := { plain "java/lang/System" (some 0) with
  accessFlags := 49
  interfaces := #[]
  cf := some (fileOf pool13 8 #[.nestMembers #[319, 327, 801, 108, 663, 208]] #[{ accessFlags := 2, nameIndex := 5, descriptorIndex := 6, attributes := #[] }, { accessFlags := 265, nameIndex := 727, descriptorIndex := 728, attributes := #[] }] 49 2 #[] #[{ accessFlags := 25, nameIndex := 507, descriptorIndex := 526, attributes := #[] }, { accessFlags := 25, nameIndex := 399, descriptorIndex := 155, attributes := #[] }, { accessFlags := 25, nameIndex := 396, descriptorIndex := 155, attributes := #[] }, { accessFlags := 10, nameIndex := 525, descriptorIndex := 526, attributes := #[] }, { accessFlags := 26, nameIndex := 674, descriptorIndex := 12, attributes := #[] }, { accessFlags := 26, nameIndex := 677, descriptorIndex := 12, attributes := #[] }, { accessFlags := 10, nameIndex := 11, descriptorIndex := 12, attributes := #[] }, { accessFlags := 74, nameIndex := 175, descriptorIndex := 176, attributes := #[] }, { accessFlags := 10, nameIndex := 491, descriptorIndex := 222, attributes := #[] }, { accessFlags := 74, nameIndex := 29, descriptorIndex := 30, attributes := #[] }, { accessFlags := 74, nameIndex := 154, descriptorIndex := 155, attributes := #[] }, { accessFlags := 10, nameIndex := 217, descriptorIndex := 218, attributes := #[] }, { accessFlags := 10, nameIndex := 221, descriptorIndex := 222, attributes := #[] }, { accessFlags := 8, nameIndex := 562, descriptorIndex := 563, attributes := #[] }])
  fields := #[{ name := "in", type := (.object "java/io/InputStream"), accessFlags := 25, slot := 0, constantValue := 0 }, { name := "out", type := (.object "java/io/PrintStream"), accessFlags := 25, slot := 1, constantValue := 0 }, { name := "err", type := (.object "java/io/PrintStream"), accessFlags := 25, slot := 2, constantValue := 0 }, { name := "initialIn", type := (.object "java/io/InputStream"), accessFlags := 10, slot := 3, constantValue := 0 }, { name := "NEVER", type := .int, accessFlags := 26, slot := 4, constantValue := 0 }, { name := "MAYBE", type := .int, accessFlags := 26, slot := 5, constantValue := 0 }, { name := "allowSecurityManager", type := .int, accessFlags := 10, slot := 6, constantValue := 0 }, { name := "security", type := (.object "java/lang/SecurityManager"), accessFlags := 74, slot := 7, constantValue := 0 }, { name := "notSupportedJnuEncoding", type := (.object "java/lang/String"), accessFlags := 10, slot := 8, constantValue := 0 }, { name := "cons", type := (.object "java/io/Console"), accessFlags := 74, slot := 9, constantValue := 0 }, { name := "initialErrStream", type := (.object "java/io/PrintStream"), accessFlags := 74, slot := 10, constantValue := 0 }, { name := "props", type := (.object "java/util/Properties"), accessFlags := 10, slot := 11, constantValue := 0 }, { name := "lineSeparator", type := (.object "java/lang/String"), accessFlags := 10, slot := 12, constantValue := 0 }, { name := "bootLayer", type := (.object "java/lang/ModuleLayer"), accessFlags := 8, slot := 13, constantValue := 0 }]
  methods := #[k13m0, k13m1]
  instanceTypes := #[]
  staticTypes := #[(.object "java/io/InputStream"), (.object "java/io/PrintStream"), (.object "java/io/PrintStream"), (.object "java/io/InputStream"), .int, .int, .int, (.object "java/lang/SecurityManager"), (.object "java/lang/String"), (.object "java/io/Console"), (.object "java/io/PrintStream"), (.object "java/util/Properties"), (.object "java/lang/String"), (.object "java/lang/ModuleLayer")]
  resolved := Array.replicate 834 none
  statics := none }

def pool14 : Array CpInfo := pool [(1, u "java/lang/Cloneable"), (0, .class_ 1), (0, u "java/lang/Object"), (0, .class_ 3)] 3

/-- java/lang/Cloneable -/
def k14 : Class := { plain "java/lang/Cloneable" (some 0) with
  accessFlags := 1537
  interfaces := #[]
  cf := some (fileOf pool14 2 #[] #[] 1537 4 #[] #[])
  fields := #[]
  methods := #[]
  instanceTypes := #[]
  staticTypes := #[]
  resolved := Array.replicate 8 none
  statics := none }

/-- the primitive byte -/
def k15 : Class := { plain "byte" none with kind := .primitive 'B', accessFlags := 0x411 }
/-- [B -/
def k16 : Class := { plain "[B" (some 0) with kind := .array 15 .byte, interfaces := #[14, 4], accessFlags := 1041 }

/-- the primitive double -/
def k17 : Class := { plain "double" none with kind := .primitive 'D', accessFlags := 0x411 }
/-- [D -/
def k18 : Class := { plain "[D" (some 0) with kind := .array 17 .double, interfaces := #[14, 4], accessFlags := 1041 }

/-- the primitive int -/
def k19 : Class := { plain "int" none with kind := .primitive 'I', accessFlags := 0x411 }
/-- [I -/
def k20 : Class := { plain "[I" (some 0) with kind := .array 19 .int, interfaces := #[14, 4], accessFlags := 1041 }

def heap : Heap := #[]
def classes : Array Class := #[k0, k1, k2, k3, k4, k5, k6, k7, k8, k9, k10, k11, k12, k13, k14, k15, k16, k17, k18, k19, k20]
def interned : List (Array UInt16 × Addr) := []
def slotsUsed : Nat := 0
def theMethod : MethodId := ⟨1, 1⟩
def args0 : Array Value := #[.int 5, .int 3, .int 5, .int 3]
def aboutOver (below : List Frame) : State where
  vm := { classes := classes, interned := interned.toArray }
  heap := heap
  slotsUsed := slotsUsed
  threads := #[{ frames := .invoking theMethod args0 :: below }]
def below0 : List Frame := [.native { method := ⟨0, 0⟩, args := #[] }]
def about1 : State := aboutOver below0
def p0 : Program := .bare "" "" ""
def e0 : Env := launch0.env 0 0 0
theorem w_frames : about1.frames = Frame.invoking theMethod args0 :: below0 := rfl
set_option maxRecDepth 65536 in
theorem w_args : argsFit about1.vm theMethod args0 = true := by decide +kernel
set_option maxRecDepth 65536 in
theorem w_heap : heapFits about1 = true := by decide +kernel
set_option maxRecDepth 65536 in
theorem w_runnable : about1.curStatus? = some .runnable := by decide +kernel
set_option maxRecDepth 65536 in
theorem w_alone : about1.alone = true := by decide +kernel
set_option maxRecDepth 65536 in
theorem w_named : about1.methodNamed? x = some theMethod := by decide +kernel
set_option maxRecDepth 65536 in
theorem w_hears : about1.hears theMethod below0 = true := by decide +kernel
set_option maxRecDepth 65536 in
theorem w_ripe : about1.ripe theMethod args0 below0 = true := by decide +kernel
theorem w_running : about1.status = .running := rfl
set_option maxRecDepth 65536 in
theorem w_room : about1.hasRoom e0.platform room_1 = true :=
  launch0.hasRoom_least _ room_1 (by decide +kernel) (by decide +kernel) (by decide +kernel) (by decide +kernel) (by decide +kernel) (by decide +kernel)
theorem allAtoms_all (ts : List Jvm.Cond) (a : Array Jvm.Value) (st : Jvm.State) : (allAtoms ts).before a st = ts.all (fun c => c.before a st) := by
  induction ts with
  | nil => rfl
  | cons c t ih =>
    show (Jvm.Cond.and c (allAtoms t)).before a st = _
    rw [Jvm.Cond.before_and, ih, List.all_cons]
def words1 : List Jvm.Cond := Jvm.Cond.code x code maxLocals ret :: tables_1
/-- a 'code' word, met by the world's own term for the bytes: nothing is compared byte by byte -/
theorem code_word {y : MethodName} {bytes : ByteArray} {mx : Nat} {rt : Option FieldType} {a : Array Value} {s : State} {m : MethodId} {meth : Method} {c : Code} (h1 : s.methodNamed? y = some m) (h2 : s.vm.method? m = some meth) (h3 : meth.code = some c) (h4 : c.code = bytes)
    (h5 : (c.maxLocals == mx && c.exceptionTable.isEmpty && decide (c.maxStack ≤ mostOperands) && decide (meth.sig.returnType = rt) && !meth.locks && decide (parseMethodDescriptor y.desc = some meth.sig)) = true) : (Jvm.Cond.code y bytes mx rt).before a s = true := by
  simp only [Bool.and_eq_true, beq_iff_eq, Bool.not_eq_true', decide_eq_true_eq] at h5
  obtain ⟨⟨⟨⟨⟨g1, g2⟩, g3⟩, g4⟩, g5⟩, g6⟩ := h5
  simp [Cond.before, Cond.holds, Cond.value, h1, h2, h3, h4, g1, g2, g3, g4, g5, g6]
def isCode : Jvm.Cond → Bool
  | .code _ _ _ _ => true
  | _ => false
theorem all_split {L : List Jvm.Cond} {P : Jvm.Cond → Bool} (h1 : L.all (fun c => isCode c || P c) = true) (h2 : ∀ c ∈ L.filter isCode, P c = true) : L.all P = true := by
  refine List.all_eq_true.mpr fun c hc => ?_
  have h := List.all_eq_true.mp h1 c hc
  rcases Bool.eq_false_or_eq_true (isCode c) with hi | hi
  · exact h2 c (List.mem_filter.mpr ⟨hc, hi⟩)
  · simpa [hi] using h
set_option maxRecDepth 65536 in
theorem w_c0 : (Jvm.Cond.code x code maxLocals ret).before args0 about1 = true := code_word (m := ⟨1, 1⟩) (meth := k1m1) (c := k1c1) (by decide +kernel) rfl rfl rfl (by decide +kernel)
set_option maxRecDepth 65536 in
theorem w_c1 : (Jvm.Cond.code ({ cls := "java/lang/Math", name := "max", desc := "(II)I" } : Jvm.MethodName) jdk_29_method_65_code (2 : Nat) (Option.some Jvm.ClassFile.FieldType.int)).before args0 about1 = true := code_word (m := ⟨2, 1⟩) (meth := k2m1) (c := k2c1) (by decide +kernel) rfl rfl rfl (by decide +kernel)
set_option maxRecDepth 65536 in
theorem w_c2 : (Jvm.Cond.code ({ cls := "com/example/nosograph/nosograph/ranking/DocumentSums", name := "<init>", desc := "(I)V" } : Jvm.MethodName) prog_56_method_1_code (2 : Nat) (Option.none : Option Jvm.ClassFile.FieldType)).before args0 about1 = true := code_word (m := ⟨3, 0⟩) (meth := k3m0) (c := k3c0) (by decide +kernel) rfl rfl rfl (by decide +kernel)
set_option maxRecDepth 65536 in
theorem w_c3 : (Jvm.Cond.code ({ cls := "java/lang/Object", name := "<init>", desc := "()V" } : Jvm.MethodName) object_method_1_code (1 : Nat) (Option.none : Option Jvm.ClassFile.FieldType)).before args0 about1 = true := code_word (m := ⟨0, 0⟩) (meth := k0m0) (c := k0c0) (by decide +kernel) rfl rfl rfl (by decide +kernel)
set_option maxRecDepth 65536 in
theorem w_c4 : (Jvm.Cond.code ({ cls := "java/lang/Integer", name := "numberOfTrailingZeros", desc := "(I)I" } : Jvm.MethodName) jdk_33_method_48_code (2 : Nat) (Option.some Jvm.ClassFile.FieldType.int)).before args0 about1 = true := code_word (m := ⟨9, 0⟩) (meth := k9m0) (c := k9c0) (by decide +kernel) rfl rfl rfl (by decide +kernel)
set_option maxRecDepth 65536 in
theorem w_c5 : (Jvm.Cond.code ({ cls := "java/util/Arrays", name := "fill", desc := "([II)V" } : Jvm.MethodName) jdk_65_method_103_code (4 : Nat) (Option.none : Option Jvm.ClassFile.FieldType)).before args0 about1 = true := code_word (m := ⟨10, 1⟩) (meth := k10m1) (c := k10c1) (by decide +kernel) rfl rfl rfl (by decide +kernel)
set_option maxRecDepth 65536 in
theorem w_c6 : (Jvm.Cond.code ({ cls := "com/example/nosograph/nosograph/ranking/DocumentSums", name := "add", desc := "(ID)V" } : Jvm.MethodName) prog_56_method_2_code (5 : Nat) (Option.none : Option Jvm.ClassFile.FieldType)).before args0 about1 = true := code_word (m := ⟨3, 1⟩) (meth := k3m1) (c := k3c1) (by decide +kernel) rfl rfl rfl (by decide +kernel)
set_option maxRecDepth 65536 in
theorem w_c7 : (Jvm.Cond.code ({ cls := "java/util/Objects", name := "checkIndex", desc := "(II)I" } : Jvm.MethodName) jdk_31_method_17_code (2 : Nat) (Option.some Jvm.ClassFile.FieldType.int)).before args0 about1 = true := code_word (m := ⟨11, 1⟩) (meth := k11m1) (c := k11c1) (by decide +kernel) rfl rfl rfl (by decide +kernel)
set_option maxRecDepth 65536 in
theorem w_c8 : (Jvm.Cond.code ({ cls := "jdk/internal/util/Preconditions", name := "checkIndex", desc := "(IILjava/util/function/BiFunction;)I" } : Jvm.MethodName) jdk_41_method_11_code (3 : Nat) (Option.some Jvm.ClassFile.FieldType.int)).before args0 about1 = true := code_word (m := ⟨12, 1⟩) (meth := k12m1) (c := k12c1) (by decide +kernel) rfl rfl rfl (by decide +kernel)
set_option maxRecDepth 65536 in
theorem w_c9 : (Jvm.Cond.code ({ cls := "com/example/nosograph/nosograph/ranking/DocumentSums", name := "slot", desc := "(I)I" } : Jvm.MethodName) prog_56_method_7_code (4 : Nat) (Option.some Jvm.ClassFile.FieldType.int)).before args0 about1 = true := code_word (m := ⟨3, 6⟩) (meth := k3m6) (c := k3c6) (by decide +kernel) rfl rfl rfl (by decide +kernel)
set_option maxRecDepth 65536 in
theorem w_c10 : (Jvm.Cond.code ({ cls := "com/example/nosograph/nosograph/ranking/DocumentSums", name := "clear", desc := "()V" } : Jvm.MethodName) prog_56_method_6_code (2 : Nat) (Option.none : Option Jvm.ClassFile.FieldType)).before args0 about1 = true := code_word (m := ⟨3, 5⟩) (meth := k3m5) (c := k3c5) (by decide +kernel) rfl rfl rfl (by decide +kernel)
set_option maxRecDepth 65536 in
theorem w_c11 : (Jvm.Cond.code ({ cls := "com/example/nosograph/nosograph/ranking/DocumentSums", name := "holds", desc := "(I)Z" } : Jvm.MethodName) prog_56_method_4_code (2 : Nat) (Option.some Jvm.ClassFile.FieldType.boolean)).before args0 about1 = true := code_word (m := ⟨3, 3⟩) (meth := k3m3) (c := k3c3) (by decide +kernel) rfl rfl rfl (by decide +kernel)
set_option maxRecDepth 65536 in
theorem w_c12 : (Jvm.Cond.code ({ cls := "com/example/nosograph/nosograph/ranking/DocumentSums", name := "documents", desc := "()[I" } : Jvm.MethodName) prog_56_method_5_code (1 : Nat) (Option.some (Jvm.ClassFile.FieldType.array Jvm.ClassFile.FieldType.int))).before args0 about1 = true := code_word (m := ⟨3, 4⟩) (meth := k3m4) (c := k3c4) (by decide +kernel) rfl rfl rfl (by decide +kernel)
set_option maxRecDepth 65536 in
theorem w_c13 : (Jvm.Cond.code ({ cls := "java/util/Arrays", name := "copyOf", desc := "([II)[I" } : Jvm.MethodName) jdk_65_method_123_code (3 : Nat) (Option.some (Jvm.ClassFile.FieldType.array Jvm.ClassFile.FieldType.int))).before args0 about1 = true := code_word (m := ⟨10, 2⟩) (meth := k10m2) (c := k10c2) (by decide +kernel) rfl rfl rfl (by decide +kernel)
set_option maxRecDepth 65536 in
theorem w_c14 : (Jvm.Cond.code ({ cls := "java/lang/Math", name := "min", desc := "(II)I" } : Jvm.MethodName) jdk_29_method_69_code (2 : Nat) (Option.some Jvm.ClassFile.FieldType.int)).before args0 about1 = true := code_word (m := ⟨2, 2⟩) (meth := k2m2) (c := k2c2) (by decide +kernel) rfl rfl rfl (by decide +kernel)
set_option maxRecDepth 65536 in
theorem w_c15 : (Jvm.Cond.code ({ cls := "com/example/nosograph/nosograph/ranking/DocumentSums", name := "get", desc := "(I)D" } : Jvm.MethodName) prog_56_method_3_code (3 : Nat) (Option.some Jvm.ClassFile.FieldType.double)).before args0 about1 = true := code_word (m := ⟨3, 2⟩) (meth := k3m2) (c := k3c2) (by decide +kernel) rfl rfl rfl (by decide +kernel)
def codes1 : List Jvm.Cond := [Jvm.Cond.code x code maxLocals ret, Jvm.Cond.code ({ cls := "java/lang/Math", name := "max", desc := "(II)I" } : Jvm.MethodName) jdk_29_method_65_code (2 : Nat) (Option.some Jvm.ClassFile.FieldType.int), Jvm.Cond.code ({ cls := "com/example/nosograph/nosograph/ranking/DocumentSums", name := "<init>", desc := "(I)V" } : Jvm.MethodName) prog_56_method_1_code (2 : Nat) (Option.none : Option Jvm.ClassFile.FieldType), Jvm.Cond.code ({ cls := "java/lang/Object", name := "<init>", desc := "()V" } : Jvm.MethodName) object_method_1_code (1 : Nat) (Option.none : Option Jvm.ClassFile.FieldType), Jvm.Cond.code ({ cls := "java/lang/Integer", name := "numberOfTrailingZeros", desc := "(I)I" } : Jvm.MethodName) jdk_33_method_48_code (2 : Nat) (Option.some Jvm.ClassFile.FieldType.int), Jvm.Cond.code ({ cls := "java/util/Arrays", name := "fill", desc := "([II)V" } : Jvm.MethodName) jdk_65_method_103_code (4 : Nat) (Option.none : Option Jvm.ClassFile.FieldType), Jvm.Cond.code ({ cls := "com/example/nosograph/nosograph/ranking/DocumentSums", name := "add", desc := "(ID)V" } : Jvm.MethodName) prog_56_method_2_code (5 : Nat) (Option.none : Option Jvm.ClassFile.FieldType), Jvm.Cond.code ({ cls := "java/util/Objects", name := "checkIndex", desc := "(II)I" } : Jvm.MethodName) jdk_31_method_17_code (2 : Nat) (Option.some Jvm.ClassFile.FieldType.int), Jvm.Cond.code ({ cls := "jdk/internal/util/Preconditions", name := "checkIndex", desc := "(IILjava/util/function/BiFunction;)I" } : Jvm.MethodName) jdk_41_method_11_code (3 : Nat) (Option.some Jvm.ClassFile.FieldType.int), Jvm.Cond.code ({ cls := "com/example/nosograph/nosograph/ranking/DocumentSums", name := "slot", desc := "(I)I" } : Jvm.MethodName) prog_56_method_7_code (4 : Nat) (Option.some Jvm.ClassFile.FieldType.int), Jvm.Cond.code ({ cls := "com/example/nosograph/nosograph/ranking/DocumentSums", name := "clear", desc := "()V" } : Jvm.MethodName) prog_56_method_6_code (2 : Nat) (Option.none : Option Jvm.ClassFile.FieldType), Jvm.Cond.code ({ cls := "com/example/nosograph/nosograph/ranking/DocumentSums", name := "holds", desc := "(I)Z" } : Jvm.MethodName) prog_56_method_4_code (2 : Nat) (Option.some Jvm.ClassFile.FieldType.boolean), Jvm.Cond.code ({ cls := "com/example/nosograph/nosograph/ranking/DocumentSums", name := "documents", desc := "()[I" } : Jvm.MethodName) prog_56_method_5_code (1 : Nat) (Option.some (Jvm.ClassFile.FieldType.array Jvm.ClassFile.FieldType.int)), Jvm.Cond.code ({ cls := "java/util/Arrays", name := "copyOf", desc := "([II)[I" } : Jvm.MethodName) jdk_65_method_123_code (3 : Nat) (Option.some (Jvm.ClassFile.FieldType.array Jvm.ClassFile.FieldType.int)), Jvm.Cond.code ({ cls := "java/lang/Math", name := "min", desc := "(II)I" } : Jvm.MethodName) jdk_29_method_69_code (2 : Nat) (Option.some Jvm.ClassFile.FieldType.int), Jvm.Cond.code ({ cls := "com/example/nosograph/nosograph/ranking/DocumentSums", name := "get", desc := "(I)D" } : Jvm.MethodName) prog_56_method_3_code (3 : Nat) (Option.some Jvm.ClassFile.FieldType.double)]
set_option maxRecDepth 65536 in
theorem codes_eq : words1.filter isCode = codes1 := rfl
theorem w_codes : ∀ c ∈ words1.filter isCode, c.before args0 about1 = true := by
  rw [codes_eq]
  intro c hc
  simp only [codes1, List.mem_cons, List.not_mem_nil, or_false] at hc
  rcases hc with rfl | rfl | rfl | rfl | rfl | rfl | rfl | rfl | rfl | rfl | rfl | rfl | rfl | rfl | rfl | rfl
  · exact w_c0
  · exact w_c1
  · exact w_c2
  · exact w_c3
  · exact w_c4
  · exact w_c5
  · exact w_c6
  · exact w_c7
  · exact w_c8
  · exact w_c9
  · exact w_c10
  · exact w_c11
  · exact w_c12
  · exact w_c13
  · exact w_c14
  · exact w_c15
set_option maxRecDepth 65536 in
theorem w_t1 : (words1.take 24).all (fun c => isCode c || c.before args0 about1) = true := by decide +kernel
set_option maxRecDepth 65536 in
theorem w_t2 : ((words1.drop 24).take 24).all (fun c => isCode c || c.before args0 about1) = true := by decide +kernel
set_option maxRecDepth 65536 in
theorem w_t3 : (((words1.drop 24).drop 24).take 24).all (fun c => isCode c || c.before args0 about1) = true := by decide +kernel
set_option maxRecDepth 65536 in
theorem w_t4 : (((words1.drop 24).drop 24).drop 24).all (fun c => isCode c || c.before args0 about1) = true := by decide +kernel
theorem w_tables : (allAtoms (Jvm.Cond.code x code maxLocals ret :: tables_1)).before args0 about1 = true := by
  rw [allAtoms_all]
  show words1.all (fun c => c.before args0 about1) = true
  refine all_split ?_ w_codes
  rw [← List.take_append_drop 24 words1, List.all_append, w_t1, ← List.take_append_drop 24 (words1.drop 24), List.all_append, w_t2, ← List.take_append_drop 24 ((words1.drop 24).drop 24), List.all_append, w_t3, w_t4]
  rfl
set_option maxRecDepth 65536 in
theorem w_case : (Jvm.Cond.and given_1 narrow_1).before args0 about1 = true := by decide +kernel
theorem w_applies : (headSpec (Jvm.Cond.code x code maxLocals ret :: tables_1) room_1).applies x e0.platform about1 = true :=
  (Spec.applies_iff w_frames).mpr ⟨w_running, w_runnable, w_alone, w_named, w_hears, w_ripe, w_room, w_tables⟩
theorem atStart : AtStart classFile x code maxLocals ret World_1 tables_1 room_1 Calls_1 rest_1 Pre_1 launch0 p0 e0 about1 theMethod args0 below0 :=
  ⟨lists_1, trivial, launch0.admits_env _ _ _, launch0.least_env, fairChoices_fair.cas, fairChoices_fair.clock, w_frames, w_args, w_heap, w_applies, trivial, trivial, w_case⟩
end start1
theorem witness_1 : WitnessClaimed_1 := ⟨start1.p0, start1.e0, start1.about1, start1.theMethod, start1.args0, start1.below0, start1.atStart⟩
end Jvm.Pilot.@@N@@
