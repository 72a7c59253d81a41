import JvmDerived
import JvmDerived.Pilot.@@N@@Statement
import JvmDerived.Pilot.@@N@@Code
set_option linter.unusedVariables false
set_option linter.unusedSimpArgs false
/- laws to paste: Road.backV (cut by pick.py; bodies as the Statement names them) -/
namespace Jvm.Pilot.@@N@@
namespace StrChars
open Jvm Sem ClassFile Op Lib Jvm.Stand Jvm.Free.XT Jvm.Free.ALB Jvm.Free.JM Jvm.Free
open Jvm.Lib.Cold (StaticIs)
/-- a char array whose places are chars -/
def Ch (a : Addr) (A : Cell) (U : State) : Prop := Arr .char a A U ∧ Typed .char A
theorem Ch.mv {a : Addr} {A : Cell} {U U' : State} (h : Ch a A U) (hal : U.vm.Alike U'.vm) (hh : U'.heap = U.heap) : Ch a A U' := ⟨h.1.mv hal hh, h.2⟩
theorem Ch.keep {a : Addr} {A : Cell} {U U' : State} (h : Ch a A U) (hal : U.vm.Alike U'.vm) (hk : U'.heap[a]? = some A) : Ch a A U' := ⟨h.1.keep hal hk, h.2⟩
/-- what place i of a char[]'s cell holds -/
def cv (A : Cell) (i : Nat) : Int32 := match A.slots[i]? with | some (.int x) => x | _ => 0
theorem Ch.get {a : Addr} {A : Cell} {U : State} (h : Ch a A U) {i : Nat} (hi : i < A.slots.size) : A.slots[i]? = some (.int (cv A i)) := by
  have e := Array.getElem?_eq_getElem hi
  have f := h.2 i _ e
  unfold cv; rw [e]
  generalize A.slots[i] = v at f
  cases v <;> simp [fits] at f ⊢
/-- the byte that i2b leaves of a char -/
def lo8 (x : Int32) : Int32 := x.toInt8.toInt32
theorem fits_lo8 (y : Int32) : fits .byte (.int (lo8 y)) = true := by
  have h1 := y.toInt8.le_toInt
  have h2 := y.toInt8.toInt_lt
  simp only [lo8, fits, Bool.and_eq_true, decide_eq_true_eq, Int32.le_iff_toInt_le, Int8.toInt_toInt32, show (-128 : Int32).toInt = -128 from by decide, show (127 : Int32).toInt = 127 from by decide]
  omega
/-- A' is A but that each place j of lo .. hi - 1 holds f j -/
def Laid (A A' : Cell) (lo hi : Nat) (f : Nat → Value) : Prop := A'.cls = A.cls ∧ A'.vm = A.vm ∧ A'.slots.size = A.slots.size ∧ ∀ i, A'.slots[i]? = if lo ≤ i ∧ i < hi then some (f i) else A.slots[i]?
theorem Laid.zero (A : Cell) (lo : Nat) (f : Nat → Value) : Laid A A lo (lo + 0) f := ⟨rfl, rfl, rfl, fun i => by rw [if_neg (by omega)]⟩
theorem Laid.step {A Ak : Cell} {lo k : Nat} {f : Nat → Value} {v : Value} (h : Laid A Ak lo k f) (hlo : lo ≤ k) (hk : k < Ak.slots.size) (hv : v = f k) : Laid A (Ak.setSlot k v) lo (k + 1) f := by
  refine ⟨h.1, h.2.1, by simpa [Cell.setSlot] using h.2.2.1, fun i => ?_⟩
  by_cases e : k = i
  · subst e; rw [Cell.slots_setSlot_self v hk, if_pos (by omega), hv]
  · rw [Cell.slots_setSlot_ne v e, h.2.2.2 i]
    by_cases q : lo ≤ i ∧ i < k
    · rw [if_pos q, if_pos (by omega)]
    · rw [if_neg q, if_neg (by omega)]
def U16 : String := "java/lang/StringUTF16"
namespace Cmp5
def yN : MethodName := ⟨"java/lang/StringUTF16", "compress", "([CI[BII)I"⟩
abbrev yB : ByteArray := jdk_52_method_21_code
theorem d0 : decode yB 0 = .ok (.iconst 0, 1) := by decide +kernel
theorem d1 : decode yB 1 = .ok (.istore 5, 2) := by decide +kernel
theorem d3 : decode yB 3 = .ok (.iload 5, 2) := by decide +kernel
theorem d5 : decode yB 5 = .ok (.iload 4, 2) := by decide +kernel
theorem d7 : decode yB 7 = .ok (.if_icmp (.ge) 37, 3) := by decide +kernel
theorem d10 : decode yB 10 = .ok (.aload_n 0, 1) := by decide +kernel
theorem d11 : decode yB 11 = .ok (.iload_n 1, 1) := by decide +kernel
theorem d12 : decode yB 12 = .ok (.caload, 1) := by decide +kernel
theorem d13 : decode yB 13 = .ok (.istore 6, 2) := by decide +kernel
theorem d15 : decode yB 15 = .ok (.iload 6, 2) := by decide +kernel
theorem d17 : decode yB 17 = .ok (.sipush 255, 3) := by decide +kernel
theorem d20 : decode yB 20 = .ok (.if_icmp (.le) 6, 3) := by decide +kernel
theorem d26 : decode yB 26 = .ok (.aload_n 2, 1) := by decide +kernel
theorem d27 : decode yB 27 = .ok (.iload_n 3, 1) := by decide +kernel
theorem d28 : decode yB 28 = .ok (.iload 6, 2) := by decide +kernel
theorem d30 : decode yB 30 = .ok (.i2b, 1) := by decide +kernel
theorem d31 : decode yB 31 = .ok (.bastore, 1) := by decide +kernel
theorem d32 : decode yB 32 = .ok (.iinc 1 1, 3) := by decide +kernel
theorem d35 : decode yB 35 = .ok (.iinc 3 1, 3) := by decide +kernel
theorem d38 : decode yB 38 = .ok (.iinc 5 1, 3) := by decide +kernel
theorem d41 : decode yB 41 = .ok (.goto (-38), 3) := by decide +kernel
theorem d44 : decode yB 44 = .ok (.iload 4, 2) := by decide +kernel
theorem d46 : decode yB 46 = .ok (.ireturn, 1) := by decide +kernel
def site : List Cond := []
def tab : Cond := tabOf yN yB 7 (some .int) site
def P (b : Addr) (A : Cell) (d : Addr) (B : Cell) (o q len : Nat) (args : Array Value) (s : State) : Prop := args = #[.ref b, .int (Int32.ofNat o), .ref d, .int (Int32.ofNat q), .int (Int32.ofNat len)] ∧ Ch b A s ∧ Arr .byte d B s ∧ b ≠ d ∧ o + len ≤ A.slots.size ∧ q + len ≤ B.slots.size ∧ ∀ i, i < len → ¬ 255 < cv A (o + i)
def E (b : Addr) (A : Cell) (d : Addr) (B : Cell) (o q len : Nat) (r : Option Value) (s u : State) : Prop := r = some (.int (Int32.ofNat len)) ∧ ∃ B', Put d B' s u ∧ Laid B B' q (q + len) (fun j => Value.int (lo8 (cv A (o + (j - q)))))
/-- no char of the range above 255: len; the places written hold each char's low byte -/
theorem law (l : Launch) (b : Addr) (A : Cell) (d : Addr) (B : Cell) (o q len : Nat) : Law l yN 5 5 0 0 yB 7 (some .int) site (P b A d B o q len) (E b A d B o q len) (copyLocs d q len) 0 0 := by
  refine Law.of_walk (plainFor_of_name (by decide +kernel)) (by decide +kernel) (by decide +kernel) (by decide) (fun _ _ h => by rw [h.1]; rfl) (fun _ U U' hal hh h => ⟨h.1, h.2.1.mv hal hh, h.2.2.1.mv hal hh, h.2.2.2⟩) (fun r U U' V V' h1 hal h2 h => ⟨h.1, h.2.elim fun B' q => ⟨B', q.1.mv h1 h2, q.2⟩⟩) ?_
  intro p e s m args below meth c s₁ X0 hexec hbytes hml hret hlk hnm hown hh0 W hP
  obtain ⟨rfl, hA, hB, hne, l1, l2, hp⟩ := hP
  have c1 : Steps p.tables e below (s₁.setTop (entryFrame m #[.ref b, .int (Int32.ofNat o), .ref d, .int (Int32.ofNat q), .int (Int32.ofNat len)] 7)) (s₁.setTop (mkF m 0 #[.val (.ref b), .val (.int (Int32.ofNat o)), .val (.ref d), .val (.int (Int32.ofNat q)), .val (.int (Int32.ofNat len)), .unset, .unset] [])) := entry rfl
  have hA0 := hA.1.mv X0.warmed.alike hh0
  have hB0 := hB.mv X0.warmed.alike hh0
  have a31 := hA.1.2.2.2
  have c2 : Steps p.tables e below (s₁.setTop (entryFrame m #[.ref b, .int (Int32.ofNat o), .ref d, .int (Int32.ofNat q), .int (Int32.ofNat len)] 7)) (s₁.setTop (mkF m 3 #[.val (.ref b), .val (.int (Int32.ofNat o)), .val (.ref d), .val (.int (Int32.ofNat q)), .val (.int (Int32.ofNat len)), .val (.int 0), .unset] [])) := c1.trans (by
    refine iconstV X0.here hexec rfl 0 (hb hbytes d0) (by decide) ?_
    refine XS.istore X0.here hexec rfl (hb hbytes d1) rfl rfl ?_
    exact Steps.refl _)
  have loop : ∀ (r i : Nat), i + r = len → ∀ (z : Slot), (z = .unset ∨ ∃ w, z = .val w ∧ w.category = 1) → ∀ (Tl : State) (Bk : Cell), Stand p l e { frames := 0, locals := 0, cells := 0, slots := 0 } s m #[.ref b, .int (Int32.ofNat o), .ref d, .int (Int32.ofNat q), .int (Int32.ofNat len)] below meth c Tl ([] ++ copyLocs d q i) 0 0 → Put d Bk s₁ Tl → Laid B Bk q (q + i) (fun j => Value.int (lo8 (cv A (o + (j - q))))) →
      Steps p.tables e below (s₁.setTop (entryFrame m #[.ref b, .int (Int32.ofNat o), .ref d, .int (Int32.ofNat q), .int (Int32.ofNat len)] 7)) (Tl.setTop (mkF m 3 #[.val (.ref b), .val (.int (Int32.ofNat (o + i))), .val (.ref d), .val (.int (Int32.ofNat (q + i))), .val (.int (Int32.ofNat len)), .val (.int (Int32.ofNat i)), z] [])) → ∃ (T' : State) (B' : Cell) (z' : Slot), Stand p l e { frames := 0, locals := 0, cells := 0, slots := 0 } s m #[.ref b, .int (Int32.ofNat o), .ref d, .int (Int32.ofNat q), .int (Int32.ofNat len)] below meth c T' ([] ++ copyLocs d q len) 0 0 ∧ Put d B' s₁ T' ∧ Laid B B' q (q + len) (fun j => Value.int (lo8 (cv A (o + (j - q))))) ∧
      Steps p.tables e below (s₁.setTop (entryFrame m #[.ref b, .int (Int32.ofNat o), .ref d, .int (Int32.ofNat q), .int (Int32.ofNat len)] 7)) (T'.setTop (mkF m 3 #[.val (.ref b), .val (.int (Int32.ofNat (o + len))), .val (.ref d), .val (.int (Int32.ofNat (q + len))), .val (.int (Int32.ofNat len)), .val (.int (Int32.ofNat len)), z'] [])) := by
    intro r
    induction r with
    | zero =>
      intro i hi z hz Tl Bk Xl pl fl cl
      have hil : i = len := by omega
      rw [hil] at Xl fl cl
      exact ⟨Tl, Bk, z, Xl, pl, fl, cl⟩
    | succ r ih =>
      intro i hi z hz Tl Bk Xl pl fl cl
      have all := X0.warmed.alike.symm.trans Xl.warmed.alike
      have hAl := hA0.keep all (pl.other hne hA0.1)
      have hBk := hB0.like all pl.1 fl.1 fl.2.1 fl.2.2.1
      have hlt : q + i < Bk.slots.size := by rw [fl.2.2.1]; omega
      have c3 : Steps p.tables e below (s₁.setTop (entryFrame m #[.ref b, .int (Int32.ofNat o), .ref d, .int (Int32.ofNat q), .int (Int32.ofNat len)] 7)) (Tl.setTop (mkF m 12 #[.val (.ref b), .val (.int (Int32.ofNat (o + i))), .val (.ref d), .val (.int (Int32.ofNat (q + i))), .val (.int (Int32.ofNat len)), .val (.int (Int32.ofNat i)), z] [.int (Int32.ofNat (o + i)), .ref b])) := cl.trans (by
        refine XS.iload Xl.here hexec rfl (hb hbytes d3) rfl ?_
        refine XS.iload Xl.here hexec rfl (hb hbytes d5) rfl ?_
        refine XS.icmpNo Xl.here hexec rfl (hb hbytes d7) rfl (ii_ge_f (lt32 (by omega) (by omega))) ?_
        refine XS.aloadN Xl.here hexec rfl (hb hbytes d10) rfl rfl ?_
        refine XS.iloadN Xl.here hexec rfl (hb hbytes d11) rfl ?_
        exact Steps.refl _)
      have c4 : Steps p.tables e below (s₁.setTop (entryFrame m #[.ref b, .int (Int32.ofNat o), .ref d, .int (Int32.ofNat q), .int (Int32.ofNat len)] 7)) (Tl.setTop (mkF m 13 #[.val (.ref b), .val (.int (Int32.ofNat (o + i))), .val (.ref d), .val (.int (Int32.ofNat (q + i))), .val (.int (Int32.ofNat len)), .val (.int (Int32.ofNat i)), z] [.int (cv A (o + i))])) := c3.trans (by
        refine Xl.aget hexec hAl rfl (hA.get (i := o + i) (by omega)) rfl rfl (hb hbytes d12) ?_
        exact Steps.refl _)
      have c5 : Steps p.tables e below (s₁.setTop (entryFrame m #[.ref b, .int (Int32.ofNat o), .ref d, .int (Int32.ofNat q), .int (Int32.ofNat len)] 7)) (Tl.setTop (mkF m 15 #[.val (.ref b), .val (.int (Int32.ofNat (o + i))), .val (.ref d), .val (.int (Int32.ofNat (q + i))), .val (.int (Int32.ofNat len)), .val (.int (Int32.ofNat i)), .val (.int (cv A (o + i)))] [])) := c4.trans (by
        refine XS.istoreS Xl.here hexec rfl (hb hbytes d13) rfl rfl hz ?_
        exact Steps.refl _)
      have c6 : Steps p.tables e below (s₁.setTop (entryFrame m #[.ref b, .int (Int32.ofNat o), .ref d, .int (Int32.ofNat q), .int (Int32.ofNat len)] 7)) (Tl.setTop (mkF m 31 #[.val (.ref b), .val (.int (Int32.ofNat (o + i))), .val (.ref d), .val (.int (Int32.ofNat (q + i))), .val (.int (Int32.ofNat len)), .val (.int (Int32.ofNat i)), .val (.int (cv A (o + i)))] [.int (lo8 (cv A (o + i))), .int (Int32.ofNat (q + i)), .ref d])) := c5.trans (by
        refine XS.iload Xl.here hexec rfl (hb hbytes d15) rfl ?_
        refine sipushV Xl.here hexec rfl 255 (hb hbytes d17) (by decide) ?_
        refine XS.icmpYes Xl.here hexec rfl (pc0 := 20) rfl (hb hbytes d20) rfl (ii_le_t (hp i (by omega))) (by decide) rfl ?_
        refine XS.aloadN Xl.here hexec rfl (hb hbytes d26) rfl rfl ?_
        refine XS.iloadN Xl.here hexec rfl (hb hbytes d27) rfl ?_
        refine XS.iload Xl.here hexec rfl (hb hbytes d28) rfl ?_
        refine i2b Xl.here hexec rfl (hb hbytes d30) rfl ?_
        exact Steps.refl _)
      obtain ⟨T7, X7, p7, st7⟩ := Xl.aput hexec hBk rfl hlt rfl (fits_lo8 (cv A (o + i))) (g := (mkF m 31 #[.val (.ref b), .val (.int (Int32.ofNat (o + i))), .val (.ref d), .val (.int (Int32.ofNat (q + i))), .val (.int (Int32.ofNat len)), .val (.int (Int32.ofNat i)), .val (.int (cv A (o + i)))] [.int (lo8 (cv A (o + i))), .int (Int32.ofNat (q + i)), .ref d])) rfl (rest := []) rfl (hb hbytes d31)
      have c8 : Steps p.tables e below (s₁.setTop (entryFrame m #[.ref b, .int (Int32.ofNat o), .ref d, .int (Int32.ofNat q), .int (Int32.ofNat len)] 7)) (T7.setTop (mkF m 32 #[.val (.ref b), .val (.int (Int32.ofNat (o + i))), .val (.ref d), .val (.int (Int32.ofNat (q + i))), .val (.int (Int32.ofNat len)), .val (.int (Int32.ofNat i)), .val (.int (cv A (o + i)))] [])) := c6.trans (st7 _ (Steps.refl _))
      have c9 : Steps p.tables e below (s₁.setTop (entryFrame m #[.ref b, .int (Int32.ofNat o), .ref d, .int (Int32.ofNat q), .int (Int32.ofNat len)] 7)) (T7.setTop (mkF m 3 #[.val (.ref b), .val (.int (Int32.ofNat (o + i) + 1)), .val (.ref d), .val (.int (Int32.ofNat (q + i) + 1)), .val (.int (Int32.ofNat len)), .val (.int (Int32.ofNat i + 1)), .val (.int (cv A (o + i)))] [])) := c8.trans (by
        refine iincV X7.here hexec rfl 1 (hb hbytes d32) (by decide) rfl rfl ?_
        refine iincV X7.here hexec rfl 1 (hb hbytes d35) (by decide) rfl rfl ?_
        refine iincV X7.here hexec rfl 1 (hb hbytes d38) (by decide) rfl rfl ?_
        refine XS.goto X7.here hexec rfl (pc0 := 41) rfl (hb hbytes d41) (by decide) rfl ?_
        exact Steps.refl _)
      have c10 : Steps p.tables e below (s₁.setTop (entryFrame m #[.ref b, .int (Int32.ofNat o), .ref d, .int (Int32.ofNat q), .int (Int32.ofNat len)] 7)) (T7.setTop (mkF m 3 #[.val (.ref b), .val (.int (Int32.ofNat (o + (i + 1)))), .val (.ref d), .val (.int (Int32.ofNat (q + (i + 1)))), .val (.int (Int32.ofNat len)), .val (.int (Int32.ofNat (i + 1))), .val (.int (cv A (o + i)))] [])) := by
        have := c9
        rw [succ32, succ32, succ32] at this
        exact this
      exact ih (i + 1) (by omega) _ (Or.inr ⟨_, rfl, rfl⟩) T7 _ (by rw [copyLocs_step, ← List.append_assoc]; exact X7) (pl.trans p7) (fl.step (by omega) hlt (by simp)) c10
  obtain ⟨T9, B9, z9, X9, p9, f9, g9⟩ := loop len 0 (by omega) .unset (Or.inl rfl) s₁ B (by simpa [copyLocs] using X0) ⟨hB0.1, fun _ _ => rfl, rfl⟩ (Laid.zero _ _ _) c2
  have c11 : Steps p.tables e below (s₁.setTop (entryFrame m #[.ref b, .int (Int32.ofNat o), .ref d, .int (Int32.ofNat q), .int (Int32.ofNat len)] 7)) (T9.setTop (mkF m 46 #[.val (.ref b), .val (.int (Int32.ofNat (o + len))), .val (.ref d), .val (.int (Int32.ofNat (q + len))), .val (.int (Int32.ofNat len)), .val (.int (Int32.ofNat len)), z9] [.int (Int32.ofNat len)])) := g9.trans (by
    refine XS.iload X9.here hexec rfl (hb hbytes d3) rfl ?_
    refine XS.iload X9.here hexec rfl (hb hbytes d5) rfl ?_
    refine XS.icmpYes X9.here hexec rfl (pc0 := 7) rfl (hb hbytes d7) rfl (ii_ge_t (nlt32 (by omega) (Nat.le_refl _))) (by decide) rfl ?_
    refine XS.iload X9.here hexec rfl (hb hbytes d44) rfl ?_
    exact Steps.refl _)
  exact ⟨T9, some (.int (Int32.ofNat len)), _, _, _, X9, by simp, rfl, rfl, (fun h => by cases h), ⟨rfl, B9, p9.from hh0, f9⟩, fun fs hl => c11.trans (X9.ireturnOut hexec hret rfl (Or.inl rfl) (hb hbytes d46) hl)⟩
end Cmp5
namespace Cmp3
def yN : MethodName := ⟨"java/lang/StringUTF16", "compress", "([CII)[B"⟩
abbrev yB : ByteArray := jdk_52_method_16_code
theorem d0 : decode yB 0 = .ok (.iload_n 2, 1) := by decide +kernel
theorem d1 : decode yB 1 = .ok (.newarray .byte, 2) := by decide +kernel
theorem d3 : decode yB 3 = .ok (.astore_n 3, 1) := by decide +kernel
theorem d4 : decode yB 4 = .ok (.aload_n 0, 1) := by decide +kernel
theorem d5 : decode yB 5 = .ok (.iload_n 1, 1) := by decide +kernel
theorem d6 : decode yB 6 = .ok (.aload_n 3, 1) := by decide +kernel
theorem d7 : decode yB 7 = .ok (.iconst 0, 1) := by decide +kernel
theorem d8 : decode yB 8 = .ok (.iload_n 2, 1) := by decide +kernel
theorem d9 : decode yB 9 = .ok (.invokestatic 115, 3) := by decide +kernel
theorem d12 : decode yB 12 = .ok (.istore 4, 2) := by decide +kernel
theorem d14 : decode yB 14 = .ok (.iload 4, 2) := by decide +kernel
theorem d16 : decode yB 16 = .ok (.iload_n 2, 1) := by decide +kernel
theorem d17 : decode yB 17 = .ok (.if_icmp (.eq) 40, 3) := by decide +kernel
theorem d57 : decode yB 57 = .ok (.aload_n 3, 1) := by decide +kernel
theorem d58 : decode yB 58 = .ok (.areturn, 1) := by decide +kernel
def site : List Cond := [.arrayClass .byte, Cmp5.tab] ++ staticW U16 115 Cmp5.yN
def tab : Cond := tabOf yN yB 6 (some (.array .byte)) site
def P (b : Addr) (A : Cell) (o len : Nat) (args : Array Value) (s : State) : Prop := args = #[.ref b, .int (Int32.ofNat o), .int (Int32.ofNat len)] ∧ Ch b A s ∧ o + len ≤ A.slots.size ∧ len ≤ 536870912 ∧ ∀ i, i < len → ¬ 255 < cv A (o + i)
def E (b : Addr) (A : Cell) (o len : Nat) (r : Option Value) (s u : State) : Prop := NewArr .byte "[B" len (fun j => .int (lo8 (cv A (o + j)))) r s u ∧ u.heap.size = s.heap.size + 1
/-- no char of the range above 255: a new byte[] of their low bytes -/
theorem law (l : Launch) (b : Addr) (A : Cell) (o len : Nat) : Law l yN 3 3 1 18 yB 6 (some (.array .byte)) site (P b A o len) (E b A o len) [] 1 len := by
  refine Law.of_walk (plainFor_of_name (by decide +kernel)) (by decide +kernel) (by decide +kernel) (by decide) (fun _ _ h => by rw [h.1]; rfl) (fun _ U U' hal hh h => ⟨h.1, h.2.1.mv hal hh, h.2.2⟩) (fun r U U' V V' h1 hal h2 h => ⟨NewArr.mv r U U' V V' h1 hal h2 h.1, by rw [h1, h2]; exact h.2⟩) ?_
  intro p e s m args below meth c s₁ X0 hexec hbytes hml hret hlk hnm hown hh0 W hP
  obtain ⟨rfl, hA, l1, l2, hp⟩ := hP
  have a31 := hA.1.2.2.2
  have c1 : Steps p.tables e below (s₁.setTop (entryFrame m #[.ref b, .int (Int32.ofNat o), .int (Int32.ofNat len)] 6)) (s₁.setTop (mkF m 0 #[.val (.ref b), .val (.int (Int32.ofNat o)), .val (.int (Int32.ofNat len)), .unset, .unset, .unset] [])) := entry rfl
  have c2 : Steps p.tables e below (s₁.setTop (entryFrame m #[.ref b, .int (Int32.ofNat o), .int (Int32.ofNat len)] 6)) (s₁.setTop (mkF m 1 #[.val (.ref b), .val (.int (Int32.ofNat o)), .val (.int (Int32.ofNat len)), .unset, .unset, .unset] [.int (Int32.ofNat len)])) := c1.trans (by
    refine XS.iloadN X0.here hexec rfl (hb hbytes d0) rfl ?_
    exact Steps.refl _)
  obtain ⟨T3, B3, X3, ba3, bs3, bv3, bh3, bf3, st3⟩ := X0.anew hexec (atype := .byte) (wk W (.arrayClass .byte)) rfl (by show len * 1 ≤ _; omega) (by omega) (g := (mkF m 1 #[.val (.ref b), .val (.int (Int32.ofNat o)), .val (.int (Int32.ofNat len)), .unset, .unset, .unset] [.int (Int32.ofNat len)])) rfl (hb hbytes d1) (rest := []) rfl (Nat.le_refl _) (by show 0 + len ≤ len; omega)
  rw [hh0] at ba3 st3
  have kp3 : XT.Kept s T3 := (XT.Kept.of_eq hh0).push bh3
  have hA3 := hA.keep X3.warmed.alike (kp3 _ _ hA.1.1)
  have hne : b ≠ s.heap.size := hA.1.ne
  have c4 : Steps p.tables e below (s₁.setTop (entryFrame m #[.ref b, .int (Int32.ofNat o), .int (Int32.ofNat len)] 6)) (T3.setTop (mkF m 3 #[.val (.ref b), .val (.int (Int32.ofNat o)), .val (.int (Int32.ofNat len)), .unset, .unset, .unset] [.ref s.heap.size])) := c2.trans (st3 _ (Steps.refl _))
  have c5 : Steps p.tables e below (s₁.setTop (entryFrame m #[.ref b, .int (Int32.ofNat o), .int (Int32.ofNat len)] 6)) (T3.setTop (mkF m 9 #[.val (.ref b), .val (.int (Int32.ofNat o)), .val (.int (Int32.ofNat len)), .val (.ref s.heap.size), .unset, .unset] [.int (Int32.ofNat len), .int 0, .ref s.heap.size, .int (Int32.ofNat o), .ref b])) := c4.trans (by
    refine XS.astoreN X3.here hexec rfl (hb hbytes d3) rfl rfl rfl ?_
    refine XS.aloadN X3.here hexec rfl (hb hbytes d4) rfl rfl ?_
    refine XS.iloadN X3.here hexec rfl (hb hbytes d5) rfl ?_
    refine XS.aloadN X3.here hexec rfl (hb hbytes d6) rfl rfl ?_
    refine iconstV X3.here hexec rfl 0 (hb hbytes d7) (by decide) ?_
    refine XS.iloadN X3.here hexec rfl (hb hbytes d8) rfl ?_
    exact Steps.refl _)
  obtain ⟨v6, T6, X6, E6, g6⟩ := X3.callS hexec (Cmp5.law l b A s.heap.size B3 o 0 len) hown (wks W (staticW U16 115 Cmp5.yN)) (wk W Cmp5.tab) (W := 0) (Nat.le_of_ble_eq_true rfl) (Nat.le_of_ble_eq_true rfl) (Nat.le_refl _) (by show 0 + len + 0 ≤ len; omega) (g := (mkF m 9 #[.val (.ref b), .val (.int (Int32.ofNat o)), .val (.int (Int32.ofNat len)), .val (.ref s.heap.size), .unset, .unset] [.int (Int32.ofNat len), .int (Int32.ofNat 0), .ref s.heap.size, .int (Int32.ofNat o), .ref b])) rfl (by rw [hml]; rfl) c5 (argsL := [.ref b, .int (Int32.ofNat o), .ref s.heap.size, .int (Int32.ofNat 0), .int (Int32.ofNat len)]) (rest := []) rfl rfl (by show 2 * 0 + 0 ≤ _; decide) (hb hbytes d9) (⟨rfl, hA3, ba3, hne, l1, by rw [bs3]; simp, hp⟩)
  obtain ⟨rfl, B6, p6, f6⟩ := E6
  have c7 : Steps p.tables e below (s₁.setTop (entryFrame m #[.ref b, .int (Int32.ofNat o), .int (Int32.ofNat len)] 6)) (T6.setTop (mkF m 12 #[.val (.ref b), .val (.int (Int32.ofNat o)), .val (.int (Int32.ofNat len)), .val (.ref s.heap.size), .unset, .unset] [.int (Int32.ofNat len)])) := g6
  have c8 : Steps p.tables e below (s₁.setTop (entryFrame m #[.ref b, .int (Int32.ofNat o), .int (Int32.ofNat len)] 6)) (T6.setTop (mkF m 58 #[.val (.ref b), .val (.int (Int32.ofNat o)), .val (.int (Int32.ofNat len)), .val (.ref s.heap.size), .val (.int (Int32.ofNat len)), .unset] [.ref s.heap.size])) := c7.trans (by
    refine XS.istore X6.here hexec rfl (hb hbytes d12) rfl rfl ?_
    refine XS.iload X6.here hexec rfl (hb hbytes d14) rfl ?_
    refine XS.iloadN X6.here hexec rfl (hb hbytes d16) rfl ?_
    refine XS.icmpYes X6.here hexec rfl (pc0 := 17) rfl (hb hbytes d17) rfl (ii_eq_t rfl) (by decide) rfl ?_
    refine XS.aloadN X6.here hexec rfl (hb hbytes d57) rfl rfl ?_
    exact Steps.refl _)
  have X8 := X6.wide (L' := []) (cells' := 1) (slots' := len) (fun x hx hlt => by
    simp only [List.nil_append, copyLocs, List.mem_map, List.mem_range] at hx
    obtain ⟨i, -, rfl⟩ := hx
    exact absurd hlt (Nat.lt_irrefl _)) (Nat.le_refl _) (by omega)
  exact ⟨T6, some (.ref s.heap.size), _, _, _, X8, rfl, rfl, rfl, (fun h => by cases h), ⟨⟨rfl, B6, ba3.like (X3.warmed.alike.symm.trans X6.warmed.alike) p6.1 f6.1 f6.2.1 f6.2.2.1, f6.2.1.trans bv3, by rw [X6.warmed.alike.findClass, f6.1]; exact bf3, by rw [f6.2.2.1, bs3]; simp, fun j hj => by rw [f6.2.2.2 j, if_pos (by omega)]; rfl, kp3.put p6 (Nat.le_refl _)⟩, by rw [p6.2.2, bh3, hh0]; simp⟩, fun fs hl => c8.trans (X8.areturnOut hexec rfl hret rfl (hb hbytes d58) hl)⟩
end Cmp3
namespace CodL
def yN : MethodName := ⟨"java/lang/StringUTF16", "coderFromArrayLen", "([BI)B"⟩
abbrev yB : ByteArray := jdk_52_method_15_code
theorem d0 : decode yB 0 = .ok (.iload_n 1, 1) := by decide +kernel
theorem d1 : decode yB 1 = .ok (.aload_n 0, 1) := by decide +kernel
theorem d2 : decode yB 2 = .ok (.arraylength, 1) := by decide +kernel
theorem d3 : decode yB 3 = .ok (.isub, 1) := by decide +kernel
theorem d4 : decode yB 4 = .ok (.bipush 31, 2) := by decide +kernel
theorem d6 : decode yB 6 = .ok (.iushr, 1) := by decide +kernel
theorem d7 : decode yB 7 = .ok (.i2b, 1) := by decide +kernel
theorem d8 : decode yB 8 = .ok (.ireturn, 1) := by decide +kernel
def site : List Cond := []
def tab : Cond := tabOf yN yB 2 (some .byte) site
def P (d : Addr) (B : Cell) (args : Array Value) (s : State) : Prop := args = #[.ref d, .int (Int32.ofNat B.slots.size)] ∧ Arr .byte d B s
def E (r : Option Value) (s u : State) : Prop := XT.PureE (some (.int 0)) r s u
/-- an array as long as the number of chars: LATIN1 -/
theorem law (l : Launch) (d : Addr) (B : Cell) : Law l yN 2 2 0 0 yB 2 (some .byte) site (P d B) E [] 0 0 := by
  refine Law.of_walk (plainFor_of_name (by decide +kernel)) (by decide +kernel) (by decide +kernel) (by decide) (fun _ _ h => by rw [h.1]; rfl) (fun _ U U' hal hh h => ⟨h.1, h.2.mv hal hh⟩) (fun r U U' V V' h1 hal h2 h => XT.PureE.mv r U U' V V' h1 hal h2 h) ?_
  intro p e s m args below meth c s₁ X0 hexec hbytes hml hret hlk hnm hown hh0 W hP
  obtain ⟨rfl, hB⟩ := hP
  have hB0 := hB.mv X0.warmed.alike hh0
  have c1 : Steps p.tables e below (s₁.setTop (entryFrame m #[.ref d, .int (Int32.ofNat B.slots.size)] 2)) (s₁.setTop (mkF m 0 #[.val (.ref d), .val (.int (Int32.ofNat B.slots.size))] [])) := entry rfl
  have c2 : Steps p.tables e below (s₁.setTop (entryFrame m #[.ref d, .int (Int32.ofNat B.slots.size)] 2)) (s₁.setTop (mkF m 2 #[.val (.ref d), .val (.int (Int32.ofNat B.slots.size))] [.ref d, .int (Int32.ofNat B.slots.size)])) := c1.trans (by
    refine XS.iloadN X0.here hexec rfl (hb hbytes d0) rfl ?_
    refine XS.aloadN X0.here hexec rfl (hb hbytes d1) rfl rfl ?_
    exact Steps.refl _)
  have c3 : Steps p.tables e below (s₁.setTop (entryFrame m #[.ref d, .int (Int32.ofNat B.slots.size)] 2)) (s₁.setTop (mkF m 8 #[.val (.ref d), .val (.int (Int32.ofNat B.slots.size))] [.int (lo8 (ushr (Int32.ofNat B.slots.size - Int32.ofNat B.slots.size) 31))])) := c2.trans (by
    refine X0.alen hexec hB0 rfl rfl (hb hbytes d2) ?_
    refine XS.isub X0.here hexec rfl (hb hbytes d3) rfl ?_
    refine bipushV X0.here hexec rfl 31 (hb hbytes d4) (by decide) ?_
    refine iushr X0.here hexec rfl (hb hbytes d6) rfl ?_
    refine i2b X0.here hexec rfl (hb hbytes d7) rfl ?_
    exact Steps.refl _)
  have e0 : lo8 (ushr (Int32.ofNat B.slots.size - Int32.ofNat B.slots.size) 31) = 0 := by rw [Int32.sub_self]; decide
  rw [e0] at c3
  exact ⟨s₁, some (.int 0), _, _, _, X0, rfl, rfl, rfl, (fun h => by cases h), ⟨rfl, hh0⟩, fun fs hl => c3.trans (X0.ireturnOut hexec hret rfl (Or.inr (Or.inr (Or.inl rfl))) (hb hbytes d8) hl)⟩
end CodL
/-- the String at a is Latin-1 over a new byte[] (the heap's one new cell): the low bytes of the len chars of A from o on; every cell but a is kept -/
def Got (a : Addr) (D : Cell) (fV fC : Field) (A : Cell) (o len : Nat) (r : Option Value) (s u : State) : Prop := r = none ∧ ∃ D' V : Cell, Blank "java/lang/String" a D' u ∧ Same D D' [fV.slot, fC.slot] ∧ D'.slots[fV.slot]? = some (.ref s.heap.size) ∧ D'.slots[fC.slot]? = some (.int 0) ∧ Arr .byte s.heap.size V u ∧ V.vm = .none ∧ u.vm.findClass "[B" = some V.cls ∧ V.slots.size = len ∧ (∀ j, j < len → V.slots[j]? = some (.int (lo8 (cv A (o + j))))) ∧ (∀ (y : Addr) (c : Cell), y ≠ a → s.heap[y]? = some c → u.heap[y]? = some c) ∧ u.heap.size = s.heap.size + 1
theorem Got.mv {a : Addr} {D A : Cell} {fV fC : Field} {o len : Nat} : ∀ r (U U' V V' : State), U'.heap = U.heap → V.vm.Alike V'.vm → V'.heap = V.heap → Got a D fV fC A o len r U V → Got a D fV fC A o len r U' V' :=
  fun r U U' V V' h1 hal h2 ⟨e0, D', X, a1, a2, a3, a4, a5, a6, a7, a8, a9, a10, a11⟩ => ⟨e0, D', X, a1.mv hal h2, a2, by rw [h1]; exact a3, a4, by rw [h1]; exact a5.mv hal h2, a6, by rw [hal.findClass]; exact a7, a8, a9, by rw [h1, h2]; exact a10, by rw [h1, h2]; exact a11⟩
namespace New4
def yN : MethodName := ⟨"java/lang/String", "<init>", "([CIILjava/lang/Void;)V"⟩
abbrev yB : ByteArray := jdk_42_method_149_code
theorem d0 : decode yB 0 = .ok (.aload_n 0, 1) := by decide +kernel
theorem d1 : decode yB 1 = .ok (.invokespecial 1, 3) := by decide +kernel
theorem d4 : decode yB 4 = .ok (.iload_n 3, 1) := by decide +kernel
theorem d5 : decode yB 5 = .ok (.ifCond (.ne) 22, 3) := by decide +kernel
theorem d27 : decode yB 27 = .ok (.getstatic 38, 3) := by decide +kernel
theorem d30 : decode yB 30 = .ok (.ifCond (.eq) 28, 3) := by decide +kernel
theorem d33 : decode yB 33 = .ok (.aload_n 1, 1) := by decide +kernel
theorem d34 : decode yB 34 = .ok (.iload_n 2, 1) := by decide +kernel
theorem d35 : decode yB 35 = .ok (.iload_n 3, 1) := by decide +kernel
theorem d36 : decode yB 36 = .ok (.invokestatic 177, 3) := by decide +kernel
theorem d39 : decode yB 39 = .ok (.astore 5, 2) := by decide +kernel
theorem d41 : decode yB 41 = .ok (.aload_n 0, 1) := by decide +kernel
theorem d42 : decode yB 42 = .ok (.aload 5, 2) := by decide +kernel
theorem d44 : decode yB 44 = .ok (.iload_n 3, 1) := by decide +kernel
theorem d45 : decode yB 45 = .ok (.invokestatic 47, 3) := by decide +kernel
theorem d48 : decode yB 48 = .ok (.putfield 15, 3) := by decide +kernel
theorem d51 : decode yB 51 = .ok (.aload_n 0, 1) := by decide +kernel
theorem d52 : decode yB 52 = .ok (.aload 5, 2) := by decide +kernel
theorem d54 : decode yB 54 = .ok (.putfield 9, 3) := by decide +kernel
theorem d57 : decode yB 57 = .ok (.return_, 1) := by decide +kernel
def site : List Cond := [.fieldLink "java/lang/String" 38 "java/lang/String" "COMPACT_STRINGS" "Z", Cmp3.tab, CodL.tab, .laysFinal "java/lang/String" "java/lang/String" "value" "[B", .fieldLink "java/lang/String" 9 "java/lang/String" "value" "[B", .laysFinal "java/lang/String" "java/lang/String" "coder" "B", .fieldLink "java/lang/String" 15 "java/lang/String" "coder" "B"] ++ objW "java/lang/String" 1 ++ staticW "java/lang/String" 177 Cmp3.yN ++ staticW "java/lang/String" 47 CodL.yN
def tab : Cond := tabOf yN yB 6 none site
def P (a : Addr) (D : Cell) (fV fC : Field) (b : Addr) (A : Cell) (z : Int32) (o len : Nat) (args : Array Value) (s : State) : Prop := args = #[.ref a, .ref b, .int (Int32.ofNat o), .int (Int32.ofNat len), .null] ∧ Blank "java/lang/String" a D s ∧ Found "java/lang/String" "value" "[B" fV s ∧ Found "java/lang/String" "coder" "B" fC s ∧ Ch b A s ∧ StaticIs s "java/lang/String" "COMPACT_STRINGS" "Z" (.int z) ∧ ¬ z = 0 ∧ 0 < len ∧ o + len ≤ A.slots.size ∧ len ≤ 536870912 ∧ ∀ i, i < len → ¬ 255 < cv A (o + i)
def E (a : Addr) (D : Cell) (fV fC : Field) (A : Cell) (o len : Nat) (r : Option Value) (s u : State) : Prop := Got a D fV fC A o len r s u
/-- len > 0, no char of the range above 255: a Latin-1 String of their low bytes -/
theorem law (l : Launch) (a : Addr) (D : Cell) (fV fC : Field) (b : Addr) (A : Cell) (z : Int32) (o len : Nat) : Law l yN 5 4 2 35 yB 6 none site (P a D fV fC b A z o len) (E a D fV fC A o len) [⟨a, fC.slot⟩, ⟨a, fV.slot⟩] 1 len := by
  refine Law.of_walk (plainFor_of_name (by decide +kernel)) (by decide +kernel) (by decide +kernel) (by decide) (fun _ _ h => by rw [h.1]; rfl) (fun _ U U' hal hh h => ⟨h.1, h.2.1.mv hal hh, h.2.2.1.al hal, h.2.2.2.1.al hal, h.2.2.2.2.1.mv hal hh, h.2.2.2.2.2.1.there hal hh, h.2.2.2.2.2.2⟩) (fun r U U' V V' h1 hal h2 h => Got.mv r U U' V V' h1 hal h2 h) ?_
  intro p e s m args below meth c s₁ X0 hexec hbytes hml hret hlk hnm hown hh0 W hP
  obtain ⟨rfl, hB, f1, f2, hA, s1, hz, l0, l1, l2, hp⟩ := hP
  have a31 := hA.1.2.2.2
  have c1 : Steps p.tables e below (s₁.setTop (entryFrame m #[.ref a, .ref b, .int (Int32.ofNat o), .int (Int32.ofNat len), .null] 6)) (s₁.setTop (mkF m 0 #[.val (.ref a), .val (.ref b), .val (.int (Int32.ofNat o)), .val (.int (Int32.ofNat len)), .val .null, .unset] [])) := entry rfl
  have c2 : Steps p.tables e below (s₁.setTop (entryFrame m #[.ref a, .ref b, .int (Int32.ofNat o), .int (Int32.ofNat len), .null] 6)) (s₁.setTop (mkF m 1 #[.val (.ref a), .val (.ref b), .val (.int (Int32.ofNat o)), .val (.int (Int32.ofNat len)), .val .null, .unset] [.ref a])) := c1.trans (by
    refine XS.aloadN X0.here hexec rfl (hb hbytes d0) rfl rfl ?_
    exact Steps.refl _)
  obtain ⟨T3, X3, q3, st3⟩ := X0.oinit hexec hown (wks W (objW "java/lang/String" 1)) (g := (mkF m 1 #[.val (.ref a), .val (.ref b), .val (.int (Int32.ofNat o)), .val (.int (Int32.ofNat len)), .val .null, .unset] [.ref a])) rfl (by rw [hml]; rfl) (rest := []) rfl (hb hbytes d1) (W := 0) (by show 2 * 0 + 0 ≤ _; decide) (Nat.le_of_ble_eq_true rfl) (Nat.le_of_ble_eq_true rfl)
  have hh3 := q3.trans hh0
  have c4 : Steps p.tables e below (s₁.setTop (entryFrame m #[.ref a, .ref b, .int (Int32.ofNat o), .int (Int32.ofNat len), .null] 6)) (T3.setTop (mkF m 27 #[.val (.ref a), .val (.ref b), .val (.int (Int32.ofNat o)), .val (.int (Int32.ofNat len)), .val .null, .unset] [])) := (c2.trans (st3 _ (Steps.refl _))).trans (by
    refine XS.iloadN X3.here hexec rfl (hb hbytes d4) rfl ?_
    refine XS.ifYes X3.here hexec rfl (pc0 := 5) rfl (hb hbytes d5) rfl (i0_ne_t (nz32 (by omega) l0)) (by decide) rfl ?_
    exact Steps.refl _)
  obtain ⟨T5, X5, q5, st5⟩ := X3.sget hexec hown (wk W (.fieldLink "java/lang/String" 38 "java/lang/String" "COMPACT_STRINGS" "Z")) s1 (fun _ _ h => by rw [hh3]; exact h) (g := (mkF m 27 #[.val (.ref a), .val (.ref b), .val (.int (Int32.ofNat o)), .val (.int (Int32.ofNat len)), .val .null, .unset] [])) rfl (hb hbytes d27)
  have hh5 := q5.trans hh3
  have c6 : Steps p.tables e below (s₁.setTop (entryFrame m #[.ref a, .ref b, .int (Int32.ofNat o), .int (Int32.ofNat len), .null] 6)) (T5.setTop (mkF m 30 #[.val (.ref a), .val (.ref b), .val (.int (Int32.ofNat o)), .val (.int (Int32.ofNat len)), .val .null, .unset] [.int z])) := c4.trans (st5 _ (Steps.refl _))
  have c7 : Steps p.tables e below (s₁.setTop (entryFrame m #[.ref a, .ref b, .int (Int32.ofNat o), .int (Int32.ofNat len), .null] 6)) (T5.setTop (mkF m 36 #[.val (.ref a), .val (.ref b), .val (.int (Int32.ofNat o)), .val (.int (Int32.ofNat len)), .val .null, .unset] [.int (Int32.ofNat len), .int (Int32.ofNat o), .ref b])) := c6.trans (by
    refine XS.ifNo X5.here hexec rfl (hb hbytes d30) rfl (i0_eq_f hz) ?_
    refine XS.aloadN X5.here hexec rfl (hb hbytes d33) rfl rfl ?_
    refine XS.iloadN X5.here hexec rfl (hb hbytes d34) rfl ?_
    refine XS.iloadN X5.here hexec rfl (hb hbytes d35) rfl ?_
    exact Steps.refl _)
  obtain ⟨v8, T8, X8, E8, g8⟩ := X5.callS hexec (Cmp3.law l b A o len) hown (wks W (staticW "java/lang/String" 177 Cmp3.yN)) (wk W Cmp3.tab) (W := 0) (Nat.le_of_ble_eq_true rfl) (Nat.le_of_ble_eq_true rfl) (Nat.le_refl _) (by show 0 + len ≤ len; omega) (g := (mkF m 36 #[.val (.ref a), .val (.ref b), .val (.int (Int32.ofNat o)), .val (.int (Int32.ofNat len)), .val .null, .unset] [.int (Int32.ofNat len), .int (Int32.ofNat o), .ref b])) rfl (by rw [hml]; rfl) c7 (argsL := [.ref b, .int (Int32.ofNat o), .int (Int32.ofNat len)]) (rest := []) rfl rfl (by show 2 * 0 + 0 ≤ _; decide) (hb hbytes d36) (⟨rfl, hA.mv X5.warmed.alike hh5, l1, l2, hp⟩)
  obtain ⟨e8, z8⟩ := E8
  obtain ⟨rfl, N, n1, n2, n3, n4, n5, n6⟩ := NewArr.mv _ T5 s _ _ hh5.symm (Vm.Alike.refl _) rfl e8
  rw [hh5] at z8
  have hB1 := hB.keep X8.warmed.alike (n6 _ _ hB.1)
  have hne : s.heap.size ≠ a := (Nat.ne_of_lt (Array.getElem?_eq_some_iff.mp hB.1).1).symm
  have c9 : Steps p.tables e below (s₁.setTop (entryFrame m #[.ref a, .ref b, .int (Int32.ofNat o), .int (Int32.ofNat len), .null] 6)) (T8.setTop (mkF m 39 #[.val (.ref a), .val (.ref b), .val (.int (Int32.ofNat o)), .val (.int (Int32.ofNat len)), .val .null, .unset] [.ref s.heap.size])) := g8
  have c10 : Steps p.tables e below (s₁.setTop (entryFrame m #[.ref a, .ref b, .int (Int32.ofNat o), .int (Int32.ofNat len), .null] 6)) (T8.setTop (mkF m 45 #[.val (.ref a), .val (.ref b), .val (.int (Int32.ofNat o)), .val (.int (Int32.ofNat len)), .val .null, .val (.ref s.heap.size)] [.int (Int32.ofNat N.slots.size), .ref s.heap.size, .ref a])) := by
    have hc : Steps p.tables e below (s₁.setTop (entryFrame m #[.ref a, .ref b, .int (Int32.ofNat o), .int (Int32.ofNat len), .null] 6)) (T8.setTop (mkF m 45 #[.val (.ref a), .val (.ref b), .val (.int (Int32.ofNat o)), .val (.int (Int32.ofNat len)), .val .null, .val (.ref s.heap.size)] [.int (Int32.ofNat len), .ref s.heap.size, .ref a])) := c9.trans (by
      refine XS.astore X8.here hexec rfl (hb hbytes d39) rfl rfl rfl ?_
      refine XS.aloadN X8.here hexec rfl (hb hbytes d41) rfl rfl ?_
      refine XS.aload X8.here hexec rfl (hb hbytes d42) rfl rfl ?_
      refine XS.iloadN X8.here hexec rfl (hb hbytes d44) rfl ?_
      exact Steps.refl _)
    rw [n4]; exact hc
  obtain ⟨v11, T11, X11, E11, g11⟩ := X8.callS hexec (CodL.law l s.heap.size N) hown (wks W (staticW "java/lang/String" 47 CodL.yN)) (wk W CodL.tab) (W := 1) (Nat.le_of_ble_eq_true rfl) (Nat.le_of_ble_eq_true rfl) (Nat.le_refl _) (by show 0 + len + 0 ≤ len; omega) (g := (mkF m 45 #[.val (.ref a), .val (.ref b), .val (.int (Int32.ofNat o)), .val (.int (Int32.ofNat len)), .val .null, .val (.ref s.heap.size)] [.int (Int32.ofNat N.slots.size), .ref s.heap.size, .ref a])) rfl (by rw [hml]; rfl) c10 (argsL := [.ref s.heap.size, .int (Int32.ofNat N.slots.size)]) (rest := [.ref a]) rfl rfl (by show 2 * 0 + (1 + 0) ≤ _; decide) (hb hbytes d45) (⟨rfl, n1⟩)
  obtain ⟨rfl, q11⟩ := E11
  have hB11 := hB1.mv (X8.warmed.alike.symm.trans X11.warmed.alike) q11
  have c12 : Steps p.tables e below (s₁.setTop (entryFrame m #[.ref a, .ref b, .int (Int32.ofNat o), .int (Int32.ofNat len), .null] 6)) (T11.setTop (mkF m 48 #[.val (.ref a), .val (.ref b), .val (.int (Int32.ofNat o)), .val (.int (Int32.ofNat len)), .val .null, .val (.ref s.heap.size)] [.int 0, .ref a])) := g11
  obtain ⟨T13, X13, p13, bl13, sl13, st13⟩ := X11.finit hexec hown (wk W (.fieldLink "java/lang/String" 15 "java/lang/String" "coder" "B")) (Or.inr ⟨_, (wk W (.laysFinal "java/lang/String" "java/lang/String" "coder" "B"))⟩) (Or.inl ⟨rfl, hnm⟩) f2 (Or.inl rfl) hB11 (t := .byte) (by decide +kernel) rfl (g := (mkF m 48 #[.val (.ref a), .val (.ref b), .val (.int (Int32.ofNat o)), .val (.int (Int32.ofNat len)), .val .null, .val (.ref s.heap.size)] [.int 0, .ref a])) rfl (rest := []) rfl (hb hbytes d48)
  have c14 : Steps p.tables e below (s₁.setTop (entryFrame m #[.ref a, .ref b, .int (Int32.ofNat o), .int (Int32.ofNat len), .null] 6)) (T13.setTop (mkF m 54 #[.val (.ref a), .val (.ref b), .val (.int (Int32.ofNat o)), .val (.int (Int32.ofNat len)), .val .null, .val (.ref s.heap.size)] [.ref s.heap.size, .ref a])) := (c12.trans (st13 _ (Steps.refl _))).trans (by
    refine XS.aloadN X13.here hexec rfl (hb hbytes d51) rfl rfl ?_
    refine XS.aload X13.here hexec rfl (hb hbytes d52) rfl rfl ?_
    exact Steps.refl _)
  obtain ⟨T15, X15, p15, bl15, sl15, st15⟩ := X13.finit hexec hown (wk W (.fieldLink "java/lang/String" 9 "java/lang/String" "value" "[B")) (Or.inr ⟨_, (wk W (.laysFinal "java/lang/String" "java/lang/String" "value" "[B"))⟩) (Or.inl ⟨rfl, hnm⟩) f1 (Or.inl rfl) bl13 (t := (.array .byte)) (by decide +kernel) rfl (g := (mkF m 54 #[.val (.ref a), .val (.ref b), .val (.int (Int32.ofNat o)), .val (.int (Int32.ofNat len)), .val .null, .val (.ref s.heap.size)] [.ref s.heap.size, .ref a])) rfl (rest := []) rfl (hb hbytes d54)
  have c16 : Steps p.tables e below (s₁.setTop (entryFrame m #[.ref a, .ref b, .int (Int32.ofNat o), .int (Int32.ofNat len), .null] 6)) (T15.setTop (mkF m 57 #[.val (.ref a), .val (.ref b), .val (.int (Int32.ofNat o)), .val (.int (Int32.ofNat len)), .val .null, .val (.ref s.heap.size)] [])) := c14.trans (st15 _ (Steps.refl _))
  have ap := apart (Or.inr ⟨_, (wk W (.laysFinal "java/lang/String" "java/lang/String" "value" "[B"))⟩) (Or.inr ⟨_, (wk W (.laysFinal "java/lang/String" "java/lang/String" "coder" "B"))⟩) f1 f2 (t₁ := .array .byte) (t₂ := .byte) (by decide +kernel) (by decide +kernel) (by decide)
  have al := X8.warmed.alike.symm.trans X15.warmed.alike
  have n7 : T11.heap[s.heap.size]? = some N := by rw [q11]; exact n1.1
  exact ⟨T15, none, _, _, _, X15, by simp, rfl, by omega, (fun _ => rfl), ⟨rfl, _, N, bl15, ((Same.refl D _).set _ (by simp)).set _ (by simp), sl15, (Cell.slots_setSlot_ne _ ap).trans sl13, n1.keep al (p15.other hne (p13.other hne n7)), n2, by rw [al.findClass]; exact n3, n4, n5, fun y c h1 h2 => p15.other h1 (p13.other h1 (by rw [q11]; exact n6 y c h2)), by rw [p15.2.2, p13.2.2, q11]; exact z8⟩, fun fs hl => c16.trans (X15.returnOut hexec hret (hb hbytes d57) hl)⟩
end New4
namespace New1
def yN : MethodName := ⟨"java/lang/String", "<init>", "([C)V"⟩
abbrev yB : ByteArray := jdk_42_method_3_code
theorem d0 : decode yB 0 = .ok (.aload_n 0, 1) := by decide +kernel
theorem d1 : decode yB 1 = .ok (.aload_n 1, 1) := by decide +kernel
theorem d2 : decode yB 2 = .ok (.iconst 0, 1) := by decide +kernel
theorem d3 : decode yB 3 = .ok (.aload_n 1, 1) := by decide +kernel
theorem d4 : decode yB 4 = .ok (.arraylength, 1) := by decide +kernel
theorem d5 : decode yB 5 = .ok (.aconst_null, 1) := by decide +kernel
theorem d6 : decode yB 6 = .ok (.invokespecial 27, 3) := by decide +kernel
theorem d9 : decode yB 9 = .ok (.return_, 1) := by decide +kernel
def site : List Cond := [New4.tab] ++ initW "java/lang/String" 27 New4.yN
def tab : Cond := tabOf yN yB 2 none site
def P (a : Addr) (D : Cell) (fV fC : Field) (b : Addr) (A : Cell) (z : Int32) (args : Array Value) (s : State) : Prop := args = #[.ref a, .ref b] ∧ Blank "java/lang/String" a D s ∧ Found "java/lang/String" "value" "[B" fV s ∧ Found "java/lang/String" "coder" "B" fC s ∧ Ch b A s ∧ StaticIs s "java/lang/String" "COMPACT_STRINGS" "Z" (.int z) ∧ ¬ z = 0 ∧ 0 < A.slots.size ∧ A.slots.size ≤ 536870912 ∧ ∀ i, i < A.slots.size → ¬ 255 < cv A i
def E (a : Addr) (D : Cell) (fV fC : Field) (A : Cell) (r : Option Value) (s u : State) : Prop := Got a D fV fC A 0 A.slots.size r s u
/-- new String(chars), not empty, no char above 255: a Latin-1 String of their low bytes -/
theorem law (l : Launch) (a : Addr) (D : Cell) (fV fC : Field) (b : Addr) (A : Cell) (z : Int32) : Law l yN 2 1 3 52 yB 2 none site (P a D fV fC b A z) (E a D fV fC A) [⟨a, fC.slot⟩, ⟨a, fV.slot⟩] 1 A.slots.size := by
  refine Law.of_walk (plainFor_of_name (by decide +kernel)) (by decide +kernel) (by decide +kernel) (by decide) (fun _ _ h => by rw [h.1]; rfl) (fun _ U U' hal hh h => ⟨h.1, h.2.1.mv hal hh, h.2.2.1.al hal, h.2.2.2.1.al hal, h.2.2.2.2.1.mv hal hh, h.2.2.2.2.2.1.there hal hh, h.2.2.2.2.2.2⟩) (fun r U U' V V' h1 hal h2 h => Got.mv r U U' V V' h1 hal h2 h) ?_
  intro p e s m args below meth c s₁ X0 hexec hbytes hml hret hlk hnm hown hh0 W hP
  obtain ⟨rfl, hB, f1, f2, hA, s1, hz, l0, l2, hp⟩ := hP
  have c1 : Steps p.tables e below (s₁.setTop (entryFrame m #[.ref a, .ref b] 2)) (s₁.setTop (mkF m 0 #[.val (.ref a), .val (.ref b)] [])) := entry rfl
  have c2 : Steps p.tables e below (s₁.setTop (entryFrame m #[.ref a, .ref b] 2)) (s₁.setTop (mkF m 6 #[.val (.ref a), .val (.ref b)] [.null, .int (Int32.ofNat A.slots.size), .int 0, .ref b, .ref a])) := c1.trans (by
    refine XS.aloadN X0.here hexec rfl (hb hbytes d0) rfl rfl ?_
    refine XS.aloadN X0.here hexec rfl (hb hbytes d1) rfl rfl ?_
    refine iconstV X0.here hexec rfl 0 (hb hbytes d2) (by decide) ?_
    refine XS.aloadN X0.here hexec rfl (hb hbytes d3) rfl rfl ?_
    refine X0.alen hexec (hA.1.mv X0.warmed.alike hh0) rfl rfl (hb hbytes d4) ?_
    refine XS.aconstNull X0.here hexec rfl (hb hbytes d5) ?_
    exact Steps.refl _)
  obtain ⟨v3, T3, X3, E3, g3⟩ := X0.callN hexec (New4.law l a D fV fC b A z 0 A.slots.size) rfl hown (wks W (initW "java/lang/String" 27 New4.yN)) (W New4.tab (by simp only [site, List.mem_cons, List.mem_append, true_or, or_true])) (W := 0) (Nat.le_of_ble_eq_true rfl) (Nat.le_of_ble_eq_true rfl) (Nat.le_refl _) (by show 0 + A.slots.size ≤ A.slots.size; omega) (g := (mkF m 6 #[.val (.ref a), .val (.ref b)] [.null, .int (Int32.ofNat A.slots.size), .int (Int32.ofNat 0), .ref b, .ref a])) rfl (by rw [hml]; rfl) c2 (argsL := [.ref b, .int (Int32.ofNat 0), .int (Int32.ofNat A.slots.size), .null]) (rest := []) rfl rfl (by show 2 * 0 + 0 ≤ _; decide) (hb hbytes d6) (⟨rfl, hB.mv X0.warmed.alike hh0, f1.al X0.warmed.alike, f2.al X0.warmed.alike, hA.mv X0.warmed.alike hh0, s1.there X0.warmed.alike hh0, hz, l0, by omega, l2, fun i hi => by rw [Nat.zero_add]; exact hp i hi⟩)
  have e0 := Got.mv _ s₁ s _ _ hh0.symm (Vm.Alike.refl _) rfl E3
  obtain rfl := e0.1
  have c4 : Steps p.tables e below (s₁.setTop (entryFrame m #[.ref a, .ref b] 2)) (T3.setTop (mkF m 9 #[.val (.ref a), .val (.ref b)] [])) := g3
  exact ⟨T3, none, _, _, _, X3, by simp, rfl, by omega, (fun _ => rfl), e0, fun fs hl => c4.trans (X3.returnOut hexec hret (hb hbytes d9) hl)⟩
theorem pays {l : Launch} {R : Room} {p : Program} {e : Env} {below : List Frame} {s : State} {sargs : Array Value} {len W : Nat} (a : Addr) (D : Cell) (fV fC : Field) (b : Addr) (A : Cell) (z : Int32) (htab : tab.before sargs s = true) (hfr : 4 ≤ R.frames) (hlo : W + 65 ≤ R.locals) :
    Back l R p e below s sargs yN len W (fun A₁ a₁ => A₁.cells + 1 ≤ R.cells ∧ A₁.slots + A.slots.size ≤ R.slots ∧ P a D fV fC b A z a₁ A₁.U) (fun A₁ _ v₁ B₁ => E a D fV fC A v₁ A₁.U B₁.U ∧ B₁.locs = A₁.locs ++ [⟨a, fC.slot⟩, ⟨a, fV.slot⟩] ∧ B₁.cells = A₁.cells + 1 ∧ B₁.slots = A₁.slots + A.slots.size) :=
  (law l a D fV fC b A z).pays htab hfr (by omega)
end New1
end StrChars
namespace StrChars.Road
open Jvm Sem ClassFile Op Lib Jvm.Stand Jvm.Free Jvm.Free.XT
open Jvm.Lib.Cold (StaticIs)
abbrev ST : String := "java/lang/String"
/-- every table word that New1's law asks, flat -/
abbrev words : List Jvm.Cond := [.code New1.yN New1.yB 2 none, .initialized ST, .methodLink ST 27 New4.yN, .instanceMethod New4.yN,
  .code New4.yN New4.yB 6 none, .fieldLink ST 38 ST "COMPACT_STRINGS" "Z", .laysFinal ST ST "value" "[B", .fieldLink ST 9 ST "value" "[B", .laysFinal ST ST "coder" "B", .fieldLink ST 15 ST "coder" "B",
  .methodLink ST 1 Lib.objectInit, .instanceMethod Lib.objectInit, .code Lib.objectInit ⟨#[0xb1]⟩ 1 none, .methodLink ST 177 Cmp3.yN, .static Cmp3.yN, .methodLink ST 47 CodL.yN, .static CodL.yN,
  .code Cmp3.yN Cmp3.yB 6 (some (.array .byte)), .initialized U16, .arrayClass .byte, .methodLink U16 115 Cmp5.yN, .static Cmp5.yN, .code Cmp5.yN Cmp5.yB 7 (some .int), .code CodL.yN CodL.yB 2 (some .byte)]
theorem tab_of {a : Array Value} {s : State} (h : ∀ w ∈ words, w.before a s = true) : New1.tab.before a s = true := by
  have h5 : Cmp5.tab.before a s = true := unparts (wk h (.code Cmp5.yN Cmp5.yB 7 (some .int))) (wks h (.initialized Cmp5.yN.cls :: Cmp5.site))
  have hc : CodL.tab.before a s = true := unparts (wk h (.code CodL.yN CodL.yB 2 (some .byte))) (wks h (.initialized CodL.yN.cls :: CodL.site))
  have q5 : ∀ w ∈ Cmp5.tab :: words, w.before a s = true := fun w hw => (List.mem_cons.mp hw).elim (fun e => e ▸ h5) (h w)
  have h3 : Cmp3.tab.before a s = true := unparts (wk q5 (.code Cmp3.yN Cmp3.yB 6 (some (.array .byte)))) (wks q5 (.initialized Cmp3.yN.cls :: Cmp3.site))
  have q3 : ∀ w ∈ Cmp3.tab :: CodL.tab :: words, w.before a s = true := fun w hw => (List.mem_cons.mp hw).elim (fun e => e ▸ h3) fun hw => (List.mem_cons.mp hw).elim (fun e => e ▸ hc) (h w)
  have h4 : New4.tab.before a s = true := unparts (wk q3 (.code New4.yN New4.yB 6 none)) (wks q3 (.initialized New4.yN.cls :: New4.site))
  have q4 : ∀ w ∈ New4.tab :: words, w.before a s = true := fun w hw => (List.mem_cons.mp hw).elim (fun e => e ▸ h4) (h w)
  exact unparts (wk q4 (.code New1.yN New1.yB 2 none)) (wks q4 (.initialized New1.yN.cls :: New1.site))
/-- the words ride from the start Z to the walk's own state -/
theorem moved {Z s : State} {a0 args : Array Value} (hZ : Z.Warmed39 s.vm) (hw : ∀ d ∈ words, d.before a0 Z = true) : ∀ d ∈ words, d.before args s = true := fun d hd => by
  have q := hw d hd
  have t : ∀ d ∈ words, d = .arrayClass .byte ∨ (d.onTables && d.keepsFace) = true := by decide +kernel
  rcases t d hd with rfl | t
  · exact RoadKit.mvA hZ q
  · exact RoadKit.mv hZ q t
/-- WHAT COMES BACK, over the tables of the start Z: h the heap at the call, h' behind it -/
def Q (Z : State) (x : Addr) (A : Cell) (h : Heap) (v : Option Value) (h' : Heap) (L : List Loc) : Prop := v = none ∧ (∀ y ∈ L, y.base = x) ∧ RoadKit.Keep h h' [x] ∧ h'.size = h.size + 1 ∧ RoadKit.Exa Z h' x ST ∧ RoadKit.Fld Z h' x ST "value" "[B" (.ref h.size) ∧ RoadKit.Fld Z h' x ST "coder" "B" (.int 0) ∧
  (∃ V : Cell, RoadKit.Arr Z h' h.size V .byte ∧ V.vm = .none ∧ Z.vm.findClass "[B" = some V.cls ∧ V.slots.size = A.slots.size ∧ ∀ j, j < A.slots.size → V.slots[j]? = some (.int (lo8 (cv A j)))) ∧
  ∀ (O n d : String) (w : Value), RoadKit.Fld Z h x O n d w → RoadKit.slotOf Z O n d ≠ RoadKit.slotOf Z ST "value" "[B" → RoadKit.slotOf Z O n d ≠ RoadKit.slotOf Z ST "coder" "B" → RoadKit.Fld Z h' x O n d w
/-- **new String(chars) AT A CALL, IN THE ROAD'S FORM**: for specialBack behind newO: x the fresh String, b the char[] with the cell A -/
theorem back {p : Program} {l : Launch} {e : Env} {R : Room} {s : State} {args : Array Value} {below : List Frame} {len W : Nat} {Z : State} {a0 : Array Value} {h : Heap} (hZ : Z.Warmed39 s.vm) (hw : ∀ d ∈ words, d.before a0 Z = true) {kI : Nat} (wi : (Jvm.Cond.instantiable ST kI).before a0 Z = true)
    {x b : Addr} {A : Cell} {z : Int32} {v0 c0 : Value} (E : RoadKit.Exa Z h x ST) (V : RoadKit.Fld Z h x ST "value" "[B" v0) (C : RoadKit.Fld Z h x ST "coder" "B" c0) (K : RoadKit.Arr Z h b A .char) (hty : Typed .char A) (S : RoadKit.Sta Z h ST "COMPACT_STRINGS" "Z" (.int z)) (hz : ¬ z = 0)
    (l0 : 0 < A.slots.size) (l2 : A.slots.size ≤ 536870912) (hp : ∀ i, i < A.slots.size → ¬ 255 < cv A i) (hfr : 4 ≤ R.frames) (hlo : W + 65 ≤ R.locals) :
    Back l R p e below s args New1.yN len W (fun P a => a = #[.ref x, .ref b] ∧ P.U.heap = h ∧ P.cells + 1 ≤ R.cells ∧ P.slots + A.slots.size ≤ R.slots)
      (fun P _ v B => ∃ L, Q Z x A h v B.U.heap L ∧ B.locs = P.locs ++ L ∧ B.cells = P.cells + 1 ∧ B.slots = P.slots + A.slots.size) := by
  intro m meth c P g ig mk a X hg hsize hdg hW hn hp'
  obtain ⟨rfl, rfl, r1, r2⟩ := hp'
  have al : Z.vm.Alike P.U.vm := hZ.alike.trans X.warmed.alike
  obtain ⟨D, cfV, kV, iV, fV, hD, gV, stV, knV, obV, asV, slV⟩ := id V
  obtain ⟨D', cfC, kC, iC, fC, hD', gC, stC, -, -, asC, slC⟩ := id C
  cases hD.symm.trans hD'
  obtain ⟨D2, kD, e1, e2, e3, e4, e5⟩ := id E
  cases hD.symm.trans e1
  obtain ⟨c2, k2, i1, i2, i3, -⟩ := Cond.instantiable_spec wi
  cases e2.symm.trans i1
  cases e3.symm.trans i2
  obtain ⟨kU, u1, u2⟩ := al.2.2 _ _ e3
  have hB : Blank ST x D P.U := ⟨hD, ⟨knV, fun q hq => by rw [hq] at obV; cases obV⟩, by rw [al.findClass]; exact e2, kU, u1, by rw [u2]; exact i3, by rw [u2]; exact e5 i3⟩
  have F1 : Found ST "value" "[B" fV P.U := ⟨SBG.found_only al ⟨cfV, kV, iV, gV⟩, stV⟩
  have F2 : Found ST "coder" "B" fC P.U := ⟨SBG.found_only al ⟨cfC, kC, iC, gC⟩, stC⟩
  have hA : Ch b A P.U := ⟨⟨K.1, State.isArrayOf_alike al K.2.1, K.2.2, by omega⟩, hty⟩
  have hS : StaticIs P.U ST "COMPACT_STRINGS" "Z" (.int z) := by
    obtain ⟨cfS, iS, kS, fS, st, cS, t1, t2, t3, t4, t5, t6, t7⟩ := S
    exact StaticIs.there (s := { Z with heap := P.U.heap }) ⟨cfS, iS, kS, fS, st, cS, t1, t2, t3, t4, t5, (fun q => by rw [q] at t6; cases t6), t7⟩ al rfl
  obtain ⟨v, B, X', ⟨⟨hv, E', V', q1, q2, q3, q4, q5, q6, q7, q8, q9, q10, q11⟩, hl, hc, hs⟩, st⟩ := New1.pays x D fV fC b A z (tab_of (moved hZ hw)) hfr hlo m meth c P g ig mk _ X hg hsize hdg hW hn ⟨r1, r2, rfl, hB, F1, F2, hA, hS, hz, l0, l2, hp⟩
  have al' : Z.vm.Alike B.U.vm := hZ.alike.trans X'.warmed.alike
  have hsz : E'.slots.size = D.slots.size := by
    obtain ⟨-, -, -, kB, w1, w2, w3⟩ := q1
    obtain ⟨kB', y1, y2⟩ := al'.2.2 _ _ e3
    rw [q2.2.1] at w1
    cases w1.symm.trans y1
    rw [w3, e5 i3, y2]
  refine ⟨v, B, X', ⟨_, ⟨hv, ?_, ⟨by omega, fun y cy hy hn' => q10 y cy (by simpa using hn') hy, fun y cy hy => ?_⟩, q11, ⟨E', _, q1.1, by rw [q2.2.1]; exact e2, by rw [q2.2.1]; exact e3, by rw [q2.1]; exact obV, fun _ => by rw [hsz]; exact e5 i3⟩,
    ⟨E', cfV, kV, iV, fV, q1.1, gV, stV, by rw [q2.1]; exact knV, by rw [q2.1]; exact obV, by rw [q2.2.1]; exact asV, q3⟩, ⟨E', cfC, kC, iC, fC, q1.1, gC, stC, by rw [q2.1]; exact knV, by rw [q2.1]; exact obV, by rw [q2.2.1]; exact asC, q4⟩,
    ⟨V', ⟨q5.1, State.isArrayOf_alike al'.symm q5.2.1, q5.2.2.1⟩, q6, by rw [← al'.findClass]; exact q7, q8, fun j hj => by have := q9 j hj; rwa [Nat.zero_add] at this⟩, fun O n d w F n1 n2 => ?_⟩, hl, hc, hs⟩, st⟩
  · intro y hy
    simp only [List.mem_cons, List.not_mem_nil, or_false] at hy
    rcases hy with rfl | rfl <;> rfl
  · by_cases q : y = x
    · subst q
      cases hD.symm.trans hy
      exact ⟨E', q1.1, q2.2.1, q2.1, hsz⟩
    · exact ⟨cy, q10 y cy q hy, rfl, rfl, rfl⟩
  · obtain ⟨D3, cf, k, i, f, g1, g2, g3, g4, g5, g6, g7⟩ := F
    cases hD.symm.trans g1
    simp only [RoadKit.slotOf, g2, gV, gC, Option.map_some, Option.getD_some] at n1 n2
    exact ⟨E', cf, k, i, f, q1.1, g2, g3, by rw [q2.1]; exact g4, by rw [q2.1]; exact g5, by rw [q2.2.1]; exact g6, by rw [q2.2.2 f.slot (by simp [n1, n2])]; exact g7⟩
end StrChars.Road
namespace StrChars.Road
open Jvm Sem ClassFile Op Lib Jvm.Stand Jvm.Free Jvm.Free.XT
/-- WHAT COMES BACK, the byte[] as a list of values -/
def QA (Z : State) (x : Addr) (zn : Int32) (cs : List Int32) (h : Heap) (v : Option Value) (h' : Heap) (L : List Loc) : Prop := v = none ∧ (∀ y ∈ L, y.base = x) ∧ RoadKit.Keep h h' [x] ∧ h'.size = h.size + 1 ∧ RoadKit.Exa Z h' x ST ∧ RoadKit.Fld Z h' x ST "value" "[B" (.ref h.size) ∧ RoadKit.Fld Z h' x ST "coder" "B" (.int 0) ∧
  (∃ kb, Z.vm.findClass "[B" = some kb ∧ RoadKit.Arv Z h' h.size kb .byte zn (cs.map fun c => .int (lo8 c)) (.int 0)) ∧
  ∀ (O n d : String) (w : Value), RoadKit.Fld Z h x O n d w → RoadKit.slotOf Z O n d ≠ RoadKit.slotOf Z ST "value" "[B" → RoadKit.slotOf Z O n d ≠ RoadKit.slotOf Z ST "coder" "B" → RoadKit.Fld Z h' x O n d w
/-- **new String(chars) AT A CALL, THE ARRAYS AS LISTS**: the char[] at b holds cs, not empty, no char above 255 -/
theorem backArv {p : Program} {l : Launch} {e : Env} {R : Room} {s : State} {args : Array Value} {below : List Frame} {len W : Nat} {Z : State} {a0 : Array Value} {h : Heap} (hZ : Z.Warmed39 s.vm) (hw : ∀ d ∈ words, d.before a0 Z = true) {kI : Nat} (wi : (Jvm.Cond.instantiable ST kI).before a0 Z = true)
    {x b : Addr} {k : ClassId} {zn z : Int32} {cs : List Int32} {dv v0 c0 : Value} (E : RoadKit.Exa Z h x ST) (V : RoadKit.Fld Z h x ST "value" "[B" v0) (C : RoadKit.Fld Z h x ST "coder" "B" c0) (K : RoadKit.Arv Z h b k .char zn (cs.map Value.int) dv) (S : RoadKit.Sta Z h ST "COMPACT_STRINGS" "Z" (.int z)) (hz : ¬ z = 0)
    (hlen : zn.toNatClampNeg = cs.length) (h0 : 0 < cs.length) (hbig : cs.length ≤ 536870912) (hall : ∀ c ∈ cs, ¬ 255 < c) (hfr : 4 ≤ R.frames) (hlo : W + 65 ≤ R.locals) :
    Back l R p e below s args New1.yN len W (fun P a => a = #[.ref x, .ref b] ∧ P.U.heap = h ∧ P.cells + 1 ≤ R.cells ∧ P.slots + cs.length ≤ R.slots)
      (fun P _ v B => ∃ L, QA Z x zn cs h v B.U.heap L ∧ B.locs = P.locs ++ L ∧ B.cells = P.cells + 1 ∧ B.slots = P.slots + cs.length) := by
  obtain ⟨A, K1, K2, K3, K4, K5, K6⟩ := K
  have e : A.slots.size = cs.length := K3.trans hlen
  have hat : ∀ (i : Nat) (hi : i < cs.length), A.slots[i]? = some (.int cs[i]) := fun i hi => by rw [K5 i (by omega)]; simp [List.getD_eq_getElem?_getD, hi]
  have hcv : ∀ (i : Nat) (hi : i < cs.length), cv A i = cs[i] := fun i hi => by unfold cv; rw [hat i hi]
  have hty : Typed .char A := fun i v hv => by
    have hi : i < A.slots.size := (Array.getElem?_eq_some_iff.mp hv).1
    have q := K5 i hi
    rw [hv] at q
    rw [Option.some.inj q]
    exact K6 i hi
  refine Back.mono (back hZ hw wi E V C K1 hty S hz (by omega) (by omega) (fun i hi => by rw [hcv i (by omega)]; exact hall _ (List.getElem_mem _)) hfr hlo) (fun P a hp => ⟨hp.1, hp.2.1, hp.2.2.1, by rw [e]; exact hp.2.2.2⟩) (fun P a v B hp hq => ?_)
  obtain ⟨L, ⟨q1, q2, q3, q4, q5, q6, q7, ⟨V', v1, v2, v3, v4, v5⟩, q9⟩, hl, hc, hs⟩ := hq
  refine ⟨L, ⟨q1, q2, q3, q4, q5, q6, q7, ⟨V'.cls, v3, V', v1, rfl, by rw [v4, e, hlen], K4, fun i hi => ?_, fun i hi => ?_⟩, q9⟩, hl, hc, by rw [hs, e]⟩
  · have hi' : i < cs.length := by omega
    rw [v5 i (by omega), hcv i hi']; simp [List.getD_eq_getElem?_getD, hi']
  · have hi' : i < cs.length := by omega
    simp only [List.getD_eq_getElem?_getD, List.getElem?_map, List.getElem?_eq_getElem hi', Option.map_some, Option.getD_some]
    exact fits_lo8 _
end StrChars.Road
namespace StrChars.Road
open Jvm Sem ClassFile Op Lib Jvm.Stand Jvm.Free Jvm.Free.XT
/-- WHAT COMES BACK, in the writer's own shape -/
def QV (Z : State) (x : Addr) (N : Int32) (bs : List Int32) (h : Heap) (n0 : Nat) (v : Option Value) (h' : Heap) (L : List Loc) : Prop := v = none ∧ RoadKit.Fr n0 L ∧ RoadKit.Keep h h' [x] ∧ RoadKit.Exa Z h' x ST ∧ RoadKit.Fld Z h' x ST "coder" "B" (.int 0) ∧
  ∃ (t : Addr) (kb : ClassId), n0 ≤ t ∧ h.size ≤ t ∧ ¬ t = x ∧ RoadKit.Fld Z h' x ST "value" "[B" (.ref t) ∧ RoadKit.Arv Z h' t kb .byte N (bs.map Value.int) (.int 0)
/-- **new String(chars) AT A CALL, FOR THE WRITER**: a char[] of n known ints, each 0 to 255 -/
theorem backV {p : Program} {l : Launch} {e : Env} {R : Room} {s : State} {args : Array Value} {below : List Frame} {len W : Nat} {Z : State} {a0 : Array Value} {h : Heap} (hZ : Z.Warmed39 s.vm) (hw : ∀ d ∈ words, d.before a0 Z = true) {kI : Nat} (wi : (Jvm.Cond.instantiable ST kI).before a0 Z = true)
    {x b : Addr} {kC : ClassId} {cs bs : List Int32} {d v0 c0 : Value} {z N : Int32} {n n0 : Nat} (hx0 : n0 ≤ x) (hh0 : n0 ≤ h.size) (E : RoadKit.Exa Z h x ST) (V : RoadKit.Fld Z h x ST "value" "[B" v0) (C : RoadKit.Fld Z h x ST "coder" "B" c0) (K : RoadKit.Arv Z h b kC .char N (cs.map Value.int) d) (S : RoadKit.Sta Z h ST "COMPACT_STRINGS" "Z" (.int z)) (hz : ¬ z = 0)
    (hn : cs.length = n) (hN : N = Int32.ofNat n) (l0 : 0 < n) (l2 : n ≤ 4000) (hp : ∀ c ∈ cs, ¬ c < 0 ∧ ¬ (255 : Int32) < c) (hb : bs = cs.map (fun c => c.toInt8.toInt32)) (hfr : 4 ≤ R.frames) (hlo : W + 65 ≤ R.locals) :
    Back l R p e below s args (⟨"java/lang/String", "<init>", "([C)V"⟩ : MethodName) len W (fun P a => a = #[.ref x, .ref b] ∧ P.U.heap = h ∧ P.cells + 1 ≤ R.cells ∧ P.slots + n ≤ R.slots)
      (fun P _ v B => ∃ L, QV Z x N bs h n0 v B.U.heap L ∧ B.locs = P.locs ++ L ∧ B.cells = P.cells + 1 ∧ B.slots = P.slots + n) := by
  subst hn hN hb
  refine Back.mono (backArv hZ hw wi E V C K S hz (n32 (by omega)) l0 (by omega) (fun c hc => (hp c hc).2) hfr hlo) (fun P a hp => hp) (fun P a v B hp hq => ?_)
  obtain ⟨L, ⟨q1, q2, q3, q4, q5, q6, q7, ⟨kb, v1, v2⟩, q9⟩, hl, hc, hs⟩ := hq
  exact ⟨L, ⟨q1, fun y hy => by rw [q2 y hy]; exact hx0, q3, q5, q7, h.size, kb, hh0, Nat.le_refl _, Nat.ne_of_gt E.lt, q6, by rw [List.map_map]; exact v2⟩, hl, hc, hs⟩
end StrChars.Road
end Jvm.Pilot.@@N@@
namespace Jvm.Pilot.@@N@@
open Jvm Jvm.ClassFile Sem Op Lib Jvm.Free Jvm.Stand Jvm.LawKit Jvm.RoadKit Bundle Jvm.Pilot.@@N@@.Jvm.D
/-- from A the run comes to an end of the body that says P -/
def Goes (p : Program) (e : Env) (below : List Frame) (s : State) (P : Option Value → Heap → List Loc → Prop) (k n : Nat) (A : State) : Prop :=
  ∃ s₂ o, Steps p.tables e below A s₂ ∧ s₂.status = .running ∧ Ended s₂ below o ∧ ∃ v L, o = .returned v ∧ P v s₂.heap L ∧ FrameEnd s o s₂ L k n
section OwnGoes
variable {p : Program} {l : Launch} {e : Env} {R : Room} {s : State} {m : MethodId} {args : Array Value} {below : List Frame} {meth : Method} {c : Code} {T : State} {locs : List Loc} {cells slots : Nat} {P : Option Value → Heap → List Loc → Prop} {k n : Nat} {A B : State}
theorem Goes.pre (h : ∀ t, Steps p.tables e below B t → Steps p.tables e below A t) (g : Goes p e below s P k n B) : Goes p e below s P k n A := by
  obtain ⟨t, o, h1, r⟩ := g
  exact ⟨t, o, h _ h1, r⟩
theorem Goes.run (h : Steps p.tables e below A B) (g : Goes p e below s P k n B) : Goes p e below s P k n A := g.pre fun _ q => h.trans q
theorem Goes.ret (X : Stand p l e R s m args below meth c T locs cells slots) (v : Option Value) (hv : meth.sig.returnType = none → v = none) (hlocks : meth.locks = false) (hk : cells ≤ k) (hn : slots ≤ n) {f : JFrame}
    (st : ∀ fs : List Frame, (∀ (f : JFrame) (acts : List Action), f.method = m → f.locked = none → f.entered = [] → (doReturn e (T.setTop f) acts v).1 = T.setFrames fs) → Steps p.tables e below (T.setTop f) (T.setFrames fs))
    (hP : P v T.heap locs) : Goes p e below s P k n (T.setTop f) := by
  obtain ⟨fs, hr, hrun, hended, hW, hsame⟩ := X.leave (v := v) hv hlocks
  exact ⟨_, _, st fs hr, hrun, hended, _, _, rfl, hP, ⟨_, rfl⟩, hW, hsame.mono hk hn⟩
end OwnGoes

theorem own_lat (x : Int32) : ¬ (nar .char ((x &&& (255 : Int32)).toUInt32.toUInt16.toUInt32.toInt32)) < 0 ∧ ¬ (255 : Int32) < (nar .char ((x &&& (255 : Int32)).toUInt32.toUInt16.toUInt32.toInt32)) := by
  have e : nar .char ((x &&& (255 : Int32)).toUInt32.toUInt16.toUInt32.toInt32) = x &&& 255 := by
    rw [i2c_mask]; exact i2c_mask x
  rw [e]
  have h := c_and x 255 (by decide)
  have k0 : (0 : Int32).toInt = 0 := by decide
  have k1 : (255 : Int32).toInt = 255 := by decide
  rw [Int32.lt_iff_toInt_lt, Int32.lt_iff_toInt_lt, k0, k1]
  omega

theorem own_short (x : Int32) : (x.toInt16.toInt32.toInt16.toInt32).toInt16.toInt32 = x.toInt16.toInt32 := by simp
theorem own_noMin (x : Int32) : ¬ (x.toInt16.toInt32) = (-2147483648 : Int32) := fun q => by
  have h := c_i2s x
  have k : (-2147483648 : Int32).toInt = -2147483648 := by decide
  rw [q, k] at h
  omega
theorem own_b1 {z : Int32} (h : z = 0 ∨ z = 1) : ((z &&& 1) &&& 1) = z := by rcases h with rfl | rfl <;> decide
theorem d7_0 : decode prog_63_method_1_code 0 = .ok (.aload_n 0, 1) := by decide +kernel
theorem d7_1 : decode prog_63_method_1_code 1 = .ok (.invokespecial 3, 3) := by decide +kernel
theorem d7_4 : decode prog_63_method_1_code 4 = .ok (.aload_n 0, 1) := by decide +kernel
theorem d7_5 : decode prog_63_method_1_code 5 = .ok (.ldc 11, 2) := by decide +kernel
theorem d7_7 : decode prog_63_method_1_code 7 = .ok (.putfield 12, 3) := by decide +kernel
theorem d7_10 : decode prog_63_method_1_code 10 = .ok (.aload_n 0, 1) := by decide +kernel
theorem d7_11 : decode prog_63_method_1_code 11 = .ok (.ldc2_w 18, 3) := by decide +kernel
theorem d7_14 : decode prog_63_method_1_code 14 = .ok (.putfield 20, 3) := by decide +kernel
theorem d7_17 : decode prog_63_method_1_code 17 = .ok (.aload_n 0, 1) := by decide +kernel
theorem d7_18 : decode prog_63_method_1_code 18 = .ok (.lload_n 1, 1) := by decide +kernel
theorem d7_19 : decode prog_63_method_1_code 19 = .ok (.putfield 24, 3) := by decide +kernel
theorem d7_22 : decode prog_63_method_1_code 22 = .ok (.return_, 1) := by decide +kernel
theorem pn_0 : plainName "com/example/seqlint/seqlint/kafka/Transaction" = true := by first | (simp [plainName, overriddenIn]; done) | decide +kernel
def Q_rm7 (Z : State) (a1 : Addr) (q2 : Int64) (u_open : Value) (u_firstOffset : Value) (u_position : Value) (u_file : Value) (u_firstTimestamp : Value) (u_reported : Value) (u_epoch : Value) (u_lastTimestamp : Value) (u_producerId : Value) (h0 : Heap) (n0 : Nat) (v : Option Value) (h : Heap) (L : List Loc) : Prop := v = none ∧ Fr n0 L ∧ Keep h0 h [a1] ∧ (Fld Z h a1 "com/example/seqlint/seqlint/kafka/Transaction" "epoch" "I" (.int (-2147483648 : Int32))) ∧ (Fld Z h a1 "com/example/seqlint/seqlint/kafka/Transaction" "open" "Z" u_open) ∧ (Fld Z h a1 "com/example/seqlint/seqlint/kafka/Transaction" "firstOffset" "J" u_firstOffset) ∧ (Fld Z h a1 "com/example/seqlint/seqlint/kafka/Transaction" "position" "J" u_position) ∧ (Fld Z h a1 "com/example/seqlint/seqlint/kafka/Transaction" "file" "Ljava/lang/String;" u_file) ∧ (Fld Z h a1 "com/example/seqlint/seqlint/kafka/Transaction" "firstTimestamp" "J" u_firstTimestamp) ∧ (Fld Z h a1 "com/example/seqlint/seqlint/kafka/Transaction" "reported" "Z" u_reported)
theorem ef_rm7 (m : MethodId) (a1 : Addr) (q2 : Int64) : entryFrame m #[(.ref a1), (.long q2)] 3 = mkF m 0 #[.val (.ref a1), .val (.long q2), .second] [] := by first | (simp [entryFrame, mkF, argsToLocals, Value.category]; done) | rfl
set_option maxRecDepth 65536 in
set_option maxHeartbeats 40000000 in
theorem rm7 (l : Launch) (Z : State) (a0 : Array Value) (hw : ∀ d ∈ tables_1, d.before a0 Z = true) (ws : List Jvm.Cond) (a1 : Addr) (q2 : Int64) (u_open : Value) (u_firstOffset : Value) (u_position : Value) (u_file : Value) (u_firstTimestamp : Value) (u_reported : Value) (u_epoch : Value) (u_lastTimestamp : Value) (u_producerId : Value) (h0 : Heap) (n0 : Nat) (Z0 : n0 ≤ h0.size) (pf_E_a1 : Exa Z h0 a1 "com/example/seqlint/seqlint/kafka/Transaction") (pf_G_a1 : n0 ≤ a1) (pf_F_a1_com_example_seqlint_seqlint_kafka_Transaction_open : Fld Z h0 a1 "com/example/seqlint/seqlint/kafka/Transaction" "open" "Z" u_open) (pf_F_a1_com_example_seqlint_seqlint_kafka_Transaction_firstOffset : Fld Z h0 a1 "com/example/seqlint/seqlint/kafka/Transaction" "firstOffset" "J" u_firstOffset) (pf_F_a1_com_example_seqlint_seqlint_kafka_Transaction_position : Fld Z h0 a1 "com/example/seqlint/seqlint/kafka/Transaction" "position" "J" u_position) (pf_F_a1_com_example_seqlint_seqlint_kafka_Transaction_file : Fld Z h0 a1 "com/example/seqlint/seqlint/kafka/Transaction" "file" "Ljava/lang/String;" u_file) (pf_F_a1_com_example_seqlint_seqlint_kafka_Transaction_firstTimestamp : Fld Z h0 a1 "com/example/seqlint/seqlint/kafka/Transaction" "firstTimestamp" "J" u_firstTimestamp) (pf_F_a1_com_example_seqlint_seqlint_kafka_Transaction_reported : Fld Z h0 a1 "com/example/seqlint/seqlint/kafka/Transaction" "reported" "Z" u_reported) (pf_F_a1_com_example_seqlint_seqlint_kafka_Transaction_epoch : Fld Z h0 a1 "com/example/seqlint/seqlint/kafka/Transaction" "epoch" "I" u_epoch) (pf_F_a1_com_example_seqlint_seqlint_kafka_Transaction_lastTimestamp : Fld Z h0 a1 "com/example/seqlint/seqlint/kafka/Transaction" "lastTimestamp" "J" u_lastTimestamp) (pf_F_a1_com_example_seqlint_seqlint_kafka_Transaction_producerId : Fld Z h0 a1 "com/example/seqlint/seqlint/kafka/Transaction" "producerId" "J" u_producerId) :
    MetFree l (⟨"com/example/seqlint/seqlint/kafka/Transaction", "<init>", "(J)V"⟩ : MethodName) (head1 (Jvm.Cond.code (⟨"com/example/seqlint/seqlint/kafka/Transaction", "<init>", "(J)V"⟩ : MethodName) prog_63_method_1_code 3 none :: ws) ({ frames := 1, cells := 0, slots := 0, locals := 12 } : Room)) (fun a U => a = #[(.ref a1), (.long q2)] ∧ Z.Warmed39 U.vm ∧ U.heap = h0) (fun _ _ _ _ _ => True) (fun _ U o U' => ∃ v L, o = .returned v ∧ Q_rm7 Z a1 q2 u_open u_firstOffset u_position u_file u_firstTimestamp u_reported u_epoch u_lastTimestamp u_producerId h0 n0 v U'.heap L ∧ FrameEnd U o U' L ({ frames := 1, cells := 0, slots := 0, locals := 12 } : Room).cells ({ frames := 1, cells := 0, slots := 0, locals := 12 } : Room).slots) := by
  refine MetFree.of_bodySF (plainFor_of_name pn_0) hisR ?_
  intro p e s m args below meth c s₁ Bd hml0 hP hK
  obtain ⟨rfl, hZ, hh⟩ := hP
  have hx := Bd.exec
  have hby := Bd.bytes
  have hml : c.maxLocals = 3 := hml0
  have hown : s.vm.findClass "com/example/seqlint/seqlint/kafka/Transaction" = some m.cls := findClass_of_methodNamed Bd.named
  have hnm := (name_of_methodNamed Bd.named Bd.method).1
  have X0 : Stand p l e ({ frames := 1, cells := 0, slots := 0, locals := 12 } : Room) s m #[(.ref a1), (.long q2)] below meth c s₁ [] 0 0 := Stand.of_body Bd
  have e0 : s₁.heap = h0 := by rw [← hh, Bd.state]; rfl
  have N0 := Fr.nil n0
  have K0 := Keep.refl h0 [a1]
  show Goes p e below s (Q_rm7 Z a1 q2 u_open u_firstOffset u_position u_file u_firstTimestamp u_reported u_epoch u_lastTimestamp u_producerId h0 n0) ({ frames := 1, cells := 0, slots := 0, locals := 12 } : Room).cells ({ frames := 1, cells := 0, slots := 0, locals := 12 } : Room).slots (s₁.setTop (entryFrame m #[(.ref a1), (.long q2)] 3))
  refine Goes.pre (fun t kt => castTop (ef_rm7 m a1 q2) kt) ?_
  show Goes p e below s _ _ _ (s₁.setTop (mkF m 0 #[.val (.ref a1), .val (.long q2), .second] []))
  refine Goes.pre (fun t kt => XS.aloadN X0.here hx rfl (hb hby d7_0) rfl rfl kt) ?_
  show Goes p e below s _ _ _ (s₁.setTop (mkF m 1 #[.val (.ref a1), .val (.long q2), .second] [(.ref a1)]))
  obtain ⟨T1, X1, e1, st1⟩ := initO X0 hx hZ hown (hw _ (List.mem_of_getElem? (i := 36) rfl)) (hw _ (List.mem_of_getElem? (i := 12) rfl)) (hw _ (List.mem_of_getElem? (i := 13) rfl)) e0 (g := (mkF m 1 #[.val (.ref a1), .val (.long q2), .second] [(.ref a1)])) rfl (by rw [hml]; rfl) rfl (hb hby d7_1) (by decide) (W := 0) (by show 2 * 0 + _ ≤ _; exact Nat.le_of_eq rfl) (by decide)
  refine Goes.pre st1 ?_
  show Goes p e below s _ _ _ (T1.setTop (mkF m 4 #[.val (.ref a1), .val (.long q2), .second] []))
  refine Goes.pre (fun t kt => XS.aloadN X1.here hx rfl (hb hby d7_4) rfl rfl kt) ?_
  show Goes p e below s _ _ _ (T1.setTop (mkF m 5 #[.val (.ref a1), .val (.long q2), .second] [(.ref a1)]))
  refine Goes.pre (X1.ldcInt hx hown (mvT hZ (hw _ (List.mem_of_getElem? (i := 37) rfl))) (g := (mkF m 5 #[.val (.ref a1), .val (.long q2), .second] [(.ref a1)])) rfl (hb hby d7_5)) ?_
  show Goes p e below s _ _ _ (T1.setTop (mkF m 7 #[.val (.ref a1), .val (.long q2), .second] [(.int (-2147483648 : Int32)), (.ref a1)]))
  obtain ⟨T2, h2, X2, e2, W2, st2⟩ := putF X1 hx hZ hown (host := "") (Or.inl (hw _ (List.mem_of_getElem? (i := 38) rfl))) Via.refl e1 pf_F_a1_com_example_seqlint_seqlint_kafka_Transaction_epoch pf_E_a1 (Or.inl (hw _ (List.mem_of_getElem? (i := 39) rfl))) (hw _ (List.mem_of_getElem? (i := 31) rfl)) (ty := .int) (by decide) rfl rfl (g := (mkF m 7 #[.val (.ref a1), .val (.long q2), .second] [(.int (-2147483648 : Int32)), (.ref a1)])) rfl rfl (hb hby d7_7)
  refine Goes.pre st2 ?_
  have Z2 : n0 ≤ h2.size := Nat.le_trans Z0 (Keep.of_wr W2).1
  have N2 := Fr.snoc X2 N0 pf_G_a1
  have K2 := K0.wr W2 (Or.inl (List.mem_of_getElem? (i := 0) rfl))
  have Fw2 : Fld Z h2 a1 "com/example/seqlint/seqlint/kafka/Transaction" "epoch" "I" (.int (-2147483648 : Int32)) := pf_F_a1_com_example_seqlint_seqlint_kafka_Transaction_epoch.same W2
  show Goes p e below s _ _ _ (T2.setTop (mkF m 10 #[.val (.ref a1), .val (.long q2), .second] []))
  refine Goes.pre (fun t kt => XS.aloadN X2.here hx rfl (hb hby d7_10) rfl rfl kt) ?_
  show Goes p e below s _ _ _ (T2.setTop (mkF m 11 #[.val (.ref a1), .val (.long q2), .second] [(.ref a1)]))
  refine Goes.pre (X2.ldc2Long hx hown (mvT hZ (hw _ (List.mem_of_getElem? (i := 40) rfl))) (g := (mkF m 11 #[.val (.ref a1), .val (.long q2), .second] [(.ref a1)])) rfl (hb hby d7_11)) ?_
  show Goes p e below s _ _ _ (T2.setTop (mkF m 14 #[.val (.ref a1), .val (.long q2), .second] [(.long (-1 : Int64)), (.ref a1)]))
  have fc3 : Fld Z h2 a1 "com/example/seqlint/seqlint/kafka/Transaction" "lastTimestamp" "J" u_lastTimestamp := (pf_F_a1_com_example_seqlint_seqlint_kafka_Transaction_lastTimestamp.other W2 (Or.inr (slot_ne (Or.inl (hw _ (List.mem_of_getElem? (i := 42) rfl))) (Or.inl (hw _ (List.mem_of_getElem? (i := 39) rfl))) (by decide) (t := .long) (t' := .int) (by decide) (by decide))))
  have fc4 : Exa Z h2 a1 "com/example/seqlint/seqlint/kafka/Transaction" := (pf_E_a1.wr W2)
  obtain ⟨T5, h5, X5, e5, W5, st5⟩ := putF X2 hx hZ hown (host := "") (Or.inl (hw _ (List.mem_of_getElem? (i := 41) rfl))) Via.refl e2 fc3 fc4 (Or.inl (hw _ (List.mem_of_getElem? (i := 42) rfl))) (hw _ (List.mem_of_getElem? (i := 31) rfl)) (ty := .long) (by decide) rfl rfl (g := (mkF m 14 #[.val (.ref a1), .val (.long q2), .second] [(.long (-1 : Int64)), (.ref a1)])) rfl rfl (hb hby d7_14)
  refine Goes.pre st5 ?_
  have Z5 : n0 ≤ h5.size := Nat.le_trans Z2 (Keep.of_wr W5).1
  have N5 := Fr.snoc X5 N2 pf_G_a1
  have K5 := K2.wr W5 (Or.inl (List.mem_of_getElem? (i := 0) rfl))
  have Fw5 : Fld Z h5 a1 "com/example/seqlint/seqlint/kafka/Transaction" "lastTimestamp" "J" (.long (-1 : Int64)) := fc3.same W5
  show Goes p e below s _ _ _ (T5.setTop (mkF m 17 #[.val (.ref a1), .val (.long q2), .second] []))
  refine Goes.pre (fun t kt => XS.aloadN X5.here hx rfl (hb hby d7_17) rfl rfl kt) ?_
  show Goes p e below s _ _ _ (T5.setTop (mkF m 18 #[.val (.ref a1), .val (.long q2), .second] [(.ref a1)]))
  refine Goes.pre (fun t kt => XS.lloadN X5.here hx rfl (hb hby d7_18) rfl kt) ?_
  show Goes p e below s _ _ _ (T5.setTop (mkF m 19 #[.val (.ref a1), .val (.long q2), .second] [(.long q2), (.ref a1)]))
  have fc6 : Fld Z h5 a1 "com/example/seqlint/seqlint/kafka/Transaction" "producerId" "J" u_producerId := ((pf_F_a1_com_example_seqlint_seqlint_kafka_Transaction_producerId.other W2 (Or.inr (slot_ne (Or.inr (hw _ (List.mem_of_getElem? (i := 44) rfl))) (Or.inl (hw _ (List.mem_of_getElem? (i := 39) rfl))) (by decide) (t := .long) (t' := .int) (by decide) (by decide)))).other W5 (Or.inr (slot_ne (Or.inr (hw _ (List.mem_of_getElem? (i := 44) rfl))) (Or.inl (hw _ (List.mem_of_getElem? (i := 42) rfl))) (by decide) (t := .long) (t' := .long) (by decide) (by decide))))
  have fc7 : Exa Z h5 a1 "com/example/seqlint/seqlint/kafka/Transaction" := (fc4.wr W5)
  obtain ⟨T8, h8, X8, e8, W8, st8⟩ := putF X5 hx hZ hown (host := "") (Or.inl (hw _ (List.mem_of_getElem? (i := 43) rfl))) Via.refl e5 fc6 fc7 (Or.inr ⟨(hw _ (List.mem_of_getElem? (i := 44) rfl)), rfl, hnm⟩) (hw _ (List.mem_of_getElem? (i := 31) rfl)) (ty := .long) (by decide) rfl rfl (g := (mkF m 19 #[.val (.ref a1), .val (.long q2), .second] [(.long q2), (.ref a1)])) rfl rfl (hb hby d7_19)
  refine Goes.pre st8 ?_
  have Z8 : n0 ≤ h8.size := Nat.le_trans Z5 (Keep.of_wr W8).1
  have N8 := Fr.snoc X8 N5 pf_G_a1
  have K8 := K5.wr W8 (Or.inl (List.mem_of_getElem? (i := 0) rfl))
  have Fw8 : Fld Z h8 a1 "com/example/seqlint/seqlint/kafka/Transaction" "producerId" "J" (.long q2) := fc6.same W8
  show Goes p e below s _ _ _ (T8.setTop (mkF m 22 #[.val (.ref a1), .val (.long q2), .second] []))
  have fc9 : Fld Z h8 a1 "com/example/seqlint/seqlint/kafka/Transaction" "epoch" "I" (.int (-2147483648 : Int32)) := ((Fw2.other W5 (Or.inr (slot_ne (Or.inl (hw _ (List.mem_of_getElem? (i := 39) rfl))) (Or.inl (hw _ (List.mem_of_getElem? (i := 42) rfl))) (by decide) (t := .int) (t' := .long) (by decide) (by decide)))).other W8 (Or.inr (slot_ne (Or.inl (hw _ (List.mem_of_getElem? (i := 39) rfl))) (Or.inr (hw _ (List.mem_of_getElem? (i := 44) rfl))) (by decide) (t := .int) (t' := .long) (by decide) (by decide))))
  have fc10 : Fld Z h8 a1 "com/example/seqlint/seqlint/kafka/Transaction" "open" "Z" u_open := (((pf_F_a1_com_example_seqlint_seqlint_kafka_Transaction_open.other W2 (Or.inr (slot_ne (Or.inl (hw _ (List.mem_of_getElem? (i := 51) rfl))) (Or.inl (hw _ (List.mem_of_getElem? (i := 39) rfl))) (by decide) (t := .boolean) (t' := .int) (by decide) (by decide)))).other W5 (Or.inr (slot_ne (Or.inl (hw _ (List.mem_of_getElem? (i := 51) rfl))) (Or.inl (hw _ (List.mem_of_getElem? (i := 42) rfl))) (by decide) (t := .boolean) (t' := .long) (by decide) (by decide)))).other W8 (Or.inr (slot_ne (Or.inl (hw _ (List.mem_of_getElem? (i := 51) rfl))) (Or.inr (hw _ (List.mem_of_getElem? (i := 44) rfl))) (by decide) (t := .boolean) (t' := .long) (by decide) (by decide))))
  have fc11 : Fld Z h8 a1 "com/example/seqlint/seqlint/kafka/Transaction" "firstOffset" "J" u_firstOffset := (((pf_F_a1_com_example_seqlint_seqlint_kafka_Transaction_firstOffset.other W2 (Or.inr (slot_ne (Or.inl (hw _ (List.mem_of_getElem? (i := 53) rfl))) (Or.inl (hw _ (List.mem_of_getElem? (i := 39) rfl))) (by decide) (t := .long) (t' := .int) (by decide) (by decide)))).other W5 (Or.inr (slot_ne (Or.inl (hw _ (List.mem_of_getElem? (i := 53) rfl))) (Or.inl (hw _ (List.mem_of_getElem? (i := 42) rfl))) (by decide) (t := .long) (t' := .long) (by decide) (by decide)))).other W8 (Or.inr (slot_ne (Or.inl (hw _ (List.mem_of_getElem? (i := 53) rfl))) (Or.inr (hw _ (List.mem_of_getElem? (i := 44) rfl))) (by decide) (t := .long) (t' := .long) (by decide) (by decide))))
  have fc12 : Fld Z h8 a1 "com/example/seqlint/seqlint/kafka/Transaction" "position" "J" u_position := (((pf_F_a1_com_example_seqlint_seqlint_kafka_Transaction_position.other W2 (Or.inr (slot_ne (Or.inl (hw _ (List.mem_of_getElem? (i := 55) rfl))) (Or.inl (hw _ (List.mem_of_getElem? (i := 39) rfl))) (by decide) (t := .long) (t' := .int) (by decide) (by decide)))).other W5 (Or.inr (slot_ne (Or.inl (hw _ (List.mem_of_getElem? (i := 55) rfl))) (Or.inl (hw _ (List.mem_of_getElem? (i := 42) rfl))) (by decide) (t := .long) (t' := .long) (by decide) (by decide)))).other W8 (Or.inr (slot_ne (Or.inl (hw _ (List.mem_of_getElem? (i := 55) rfl))) (Or.inr (hw _ (List.mem_of_getElem? (i := 44) rfl))) (by decide) (t := .long) (t' := .long) (by decide) (by decide))))
  have fc13 : Fld Z h8 a1 "com/example/seqlint/seqlint/kafka/Transaction" "file" "Ljava/lang/String;" u_file := (((pf_F_a1_com_example_seqlint_seqlint_kafka_Transaction_file.other W2 (Or.inr (slot_ne (Or.inl (hw _ (List.mem_of_getElem? (i := 57) rfl))) (Or.inl (hw _ (List.mem_of_getElem? (i := 39) rfl))) (by decide) (t := (.object "java/lang/String")) (t' := .int) (by decide) (by decide)))).other W5 (Or.inr (slot_ne (Or.inl (hw _ (List.mem_of_getElem? (i := 57) rfl))) (Or.inl (hw _ (List.mem_of_getElem? (i := 42) rfl))) (by decide) (t := (.object "java/lang/String")) (t' := .long) (by decide) (by decide)))).other W8 (Or.inr (slot_ne (Or.inl (hw _ (List.mem_of_getElem? (i := 57) rfl))) (Or.inr (hw _ (List.mem_of_getElem? (i := 44) rfl))) (by decide) (t := (.object "java/lang/String")) (t' := .long) (by decide) (by decide))))
  have fc14 : Fld Z h8 a1 "com/example/seqlint/seqlint/kafka/Transaction" "firstTimestamp" "J" u_firstTimestamp := (((pf_F_a1_com_example_seqlint_seqlint_kafka_Transaction_firstTimestamp.other W2 (Or.inr (slot_ne (Or.inl (hw _ (List.mem_of_getElem? (i := 59) rfl))) (Or.inl (hw _ (List.mem_of_getElem? (i := 39) rfl))) (by decide) (t := .long) (t' := .int) (by decide) (by decide)))).other W5 (Or.inr (slot_ne (Or.inl (hw _ (List.mem_of_getElem? (i := 59) rfl))) (Or.inl (hw _ (List.mem_of_getElem? (i := 42) rfl))) (by decide) (t := .long) (t' := .long) (by decide) (by decide)))).other W8 (Or.inr (slot_ne (Or.inl (hw _ (List.mem_of_getElem? (i := 59) rfl))) (Or.inr (hw _ (List.mem_of_getElem? (i := 44) rfl))) (by decide) (t := .long) (t' := .long) (by decide) (by decide))))
  have fc15 : Fld Z h8 a1 "com/example/seqlint/seqlint/kafka/Transaction" "reported" "Z" u_reported := (((pf_F_a1_com_example_seqlint_seqlint_kafka_Transaction_reported.other W2 (Or.inr (slot_ne (Or.inl (hw _ (List.mem_of_getElem? (i := 61) rfl))) (Or.inl (hw _ (List.mem_of_getElem? (i := 39) rfl))) (by decide) (t := .boolean) (t' := .int) (by decide) (by decide)))).other W5 (Or.inr (slot_ne (Or.inl (hw _ (List.mem_of_getElem? (i := 61) rfl))) (Or.inl (hw _ (List.mem_of_getElem? (i := 42) rfl))) (by decide) (t := .boolean) (t' := .long) (by decide) (by decide)))).other W8 (Or.inr (slot_ne (Or.inl (hw _ (List.mem_of_getElem? (i := 61) rfl))) (Or.inr (hw _ (List.mem_of_getElem? (i := 44) rfl))) (by decide) (t := .boolean) (t' := .long) (by decide) (by decide))))
  refine Goes.ret X8 none (fun _ => rfl) (BodyLoose.notSynchronized Bd) (by decide) (by decide) (fun fs hr => X8.returnOut hx Bd.returns (hb hby d7_22) hr) ?_
  show Q_rm7 Z a1 q2 u_open u_firstOffset u_position u_file u_firstTimestamp u_reported u_epoch u_lastTimestamp u_producerId h0 n0 _ T8.heap _
  rw [e8]
  exact ⟨rfl, N8, K8, fc9, fc10, fc11, fc12, fc13, fc14, fc15⟩
theorem d8_0 : decode prog_63_method_15_code 0 = .ok (.aload_n 0, 1) := by decide +kernel
theorem d8_1 : decode prog_63_method_15_code 1 = .ok (.iconst 1, 1) := by decide +kernel
theorem d8_2 : decode prog_63_method_15_code 2 = .ok (.putfield 27, 3) := by decide +kernel
theorem d8_5 : decode prog_63_method_15_code 5 = .ok (.aload_n 0, 1) := by decide +kernel
theorem d8_6 : decode prog_63_method_15_code 6 = .ok (.iload_n 1, 1) := by decide +kernel
theorem d8_7 : decode prog_63_method_15_code 7 = .ok (.putfield 12, 3) := by decide +kernel
theorem d8_10 : decode prog_63_method_15_code 10 = .ok (.aload_n 0, 1) := by decide +kernel
theorem d8_11 : decode prog_63_method_15_code 11 = .ok (.lload_n 2, 1) := by decide +kernel
theorem d8_12 : decode prog_63_method_15_code 12 = .ok (.putfield 31, 3) := by decide +kernel
theorem d8_15 : decode prog_63_method_15_code 15 = .ok (.aload_n 0, 1) := by decide +kernel
theorem d8_16 : decode prog_63_method_15_code 16 = .ok (.lload 4, 2) := by decide +kernel
theorem d8_18 : decode prog_63_method_15_code 18 = .ok (.putfield 34, 3) := by decide +kernel
theorem d8_21 : decode prog_63_method_15_code 21 = .ok (.aload_n 0, 1) := by decide +kernel
theorem d8_22 : decode prog_63_method_15_code 22 = .ok (.aload 6, 2) := by decide +kernel
theorem d8_24 : decode prog_63_method_15_code 24 = .ok (.putfield 37, 3) := by decide +kernel
theorem d8_27 : decode prog_63_method_15_code 27 = .ok (.aload_n 0, 1) := by decide +kernel
theorem d8_28 : decode prog_63_method_15_code 28 = .ok (.lload 7, 2) := by decide +kernel
theorem d8_30 : decode prog_63_method_15_code 30 = .ok (.putfield 41, 3) := by decide +kernel
theorem d8_33 : decode prog_63_method_15_code 33 = .ok (.aload_n 0, 1) := by decide +kernel
theorem d8_34 : decode prog_63_method_15_code 34 = .ok (.iload 9, 2) := by decide +kernel
theorem d8_36 : decode prog_63_method_15_code 36 = .ok (.putfield 44, 3) := by decide +kernel
theorem d8_39 : decode prog_63_method_15_code 39 = .ok (.return_, 1) := by decide +kernel
def Q_rm8r (Z : State) (a1 : Addr) (p2 : Int32) (q3 : Int64) (q4 : Int64) (a6 : Addr) (q7 : Int64) (p8 : Int32) (u_open : Value) (u_epoch : Value) (u_firstOffset : Value) (u_position : Value) (u_file : Value) (u_firstTimestamp : Value) (u_reported : Value) (h0 : Heap) (n0 : Nat) (v : Option Value) (h : Heap) (L : List Loc) : Prop := v = none ∧ Fr n0 L ∧ Keep h0 h [a1] ∧ (Fld Z h a1 "com/example/seqlint/seqlint/kafka/Transaction" "open" "Z" (.int (1 : Int32))) ∧ (Fld Z h a1 "com/example/seqlint/seqlint/kafka/Transaction" "epoch" "I" (.int p2)) ∧ (Fld Z h a1 "com/example/seqlint/seqlint/kafka/Transaction" "firstOffset" "J" (.long q3)) ∧ (Fld Z h a1 "com/example/seqlint/seqlint/kafka/Transaction" "position" "J" (.long q4)) ∧ (Fld Z h a1 "com/example/seqlint/seqlint/kafka/Transaction" "file" "Ljava/lang/String;" (.ref a6)) ∧ (Fld Z h a1 "com/example/seqlint/seqlint/kafka/Transaction" "firstTimestamp" "J" (.long q7)) ∧ (Fld Z h a1 "com/example/seqlint/seqlint/kafka/Transaction" "reported" "Z" (.int (p8 &&& 1)))
theorem ef_rm8r (m : MethodId) (a1 : Addr) (p2 : Int32) (q3 : Int64) (q4 : Int64) (a6 : Addr) (q7 : Int64) (p8 : Int32) : entryFrame m #[(.ref a1), (.int p2), (.long q3), (.long q4), (.ref a6), (.long q7), (.int p8)] 10 = mkF m 0 #[.val (.ref a1), .val (.int p2), .val (.long q3), .second, .val (.long q4), .second, .val (.ref a6), .val (.long q7), .second, .val (.int p8)] [] := by first | (simp [entryFrame, mkF, argsToLocals, Value.category]; done) | rfl
set_option maxRecDepth 65536 in
set_option maxHeartbeats 40000000 in
theorem rm8r (l : Launch) (Z : State) (a0 : Array Value) (hw : ∀ d ∈ tables_1, d.before a0 Z = true) (ws : List Jvm.Cond) (a1 : Addr) (p2 : Int32) (q3 : Int64) (q4 : Int64) (a6 : Addr) (q7 : Int64) (p8 : Int32) (u_open : Value) (u_epoch : Value) (u_firstOffset : Value) (u_position : Value) (u_file : Value) (u_firstTimestamp : Value) (u_reported : Value) (h0 : Heap) (n0 : Nat) (Z0 : n0 ≤ h0.size) (pf_E_a1 : Exa Z h0 a1 "com/example/seqlint/seqlint/kafka/Transaction") (pf_G_a1 : n0 ≤ a1) (pf_F_a1_com_example_seqlint_seqlint_kafka_Transaction_open : Fld Z h0 a1 "com/example/seqlint/seqlint/kafka/Transaction" "open" "Z" u_open) (pf_F_a1_com_example_seqlint_seqlint_kafka_Transaction_epoch : Fld Z h0 a1 "com/example/seqlint/seqlint/kafka/Transaction" "epoch" "I" u_epoch) (pf_F_a1_com_example_seqlint_seqlint_kafka_Transaction_firstOffset : Fld Z h0 a1 "com/example/seqlint/seqlint/kafka/Transaction" "firstOffset" "J" u_firstOffset) (pf_F_a1_com_example_seqlint_seqlint_kafka_Transaction_position : Fld Z h0 a1 "com/example/seqlint/seqlint/kafka/Transaction" "position" "J" u_position) (pf_F_a1_com_example_seqlint_seqlint_kafka_Transaction_file : Fld Z h0 a1 "com/example/seqlint/seqlint/kafka/Transaction" "file" "Ljava/lang/String;" u_file) (pf_F_a1_com_example_seqlint_seqlint_kafka_Transaction_firstTimestamp : Fld Z h0 a1 "com/example/seqlint/seqlint/kafka/Transaction" "firstTimestamp" "J" u_firstTimestamp) (pf_F_a1_com_example_seqlint_seqlint_kafka_Transaction_reported : Fld Z h0 a1 "com/example/seqlint/seqlint/kafka/Transaction" "reported" "Z" u_reported) :
    MetFree l (⟨"com/example/seqlint/seqlint/kafka/Transaction", "open", "(SJJLjava/lang/String;JZ)V"⟩ : MethodName) (head1 (Jvm.Cond.code (⟨"com/example/seqlint/seqlint/kafka/Transaction", "open", "(SJJLjava/lang/String;JZ)V"⟩ : MethodName) prog_63_method_15_code 10 none :: ws) ({ frames := 0, cells := 0, slots := 0, locals := 0 } : Room)) (fun a U => a = #[(.ref a1), (.int p2), (.long q3), (.long q4), (.ref a6), (.long q7), (.int p8)] ∧ Z.Warmed39 U.vm ∧ U.heap = h0) (fun _ _ _ _ _ => True) (fun _ U o U' => ∃ v L, o = .returned v ∧ Q_rm8r Z a1 p2 q3 q4 a6 q7 p8 u_open u_epoch u_firstOffset u_position u_file u_firstTimestamp u_reported h0 n0 v U'.heap L ∧ FrameEnd U o U' L ({ frames := 0, cells := 0, slots := 0, locals := 0 } : Room).cells ({ frames := 0, cells := 0, slots := 0, locals := 0 } : Room).slots) := by
  refine MetFree.of_bodySF (plainFor_of_name pn_0) hisR ?_
  intro p e s m args below meth c s₁ Bd hml0 hP hK
  obtain ⟨rfl, hZ, hh⟩ := hP
  have hx := Bd.exec
  have hby := Bd.bytes
  have hml : c.maxLocals = 10 := hml0
  have hown : s.vm.findClass "com/example/seqlint/seqlint/kafka/Transaction" = some m.cls := findClass_of_methodNamed Bd.named
  have hnm := (name_of_methodNamed Bd.named Bd.method).1
  have X0 : Stand p l e ({ frames := 0, cells := 0, slots := 0, locals := 0 } : Room) s m #[(.ref a1), (.int p2), (.long q3), (.long q4), (.ref a6), (.long q7), (.int p8)] below meth c s₁ [] 0 0 := Stand.of_body Bd
  have e0 : s₁.heap = h0 := by rw [← hh, Bd.state]; rfl
  have N0 := Fr.nil n0
  have K0 := Keep.refl h0 [a1]
  show Goes p e below s (Q_rm8r Z a1 p2 q3 q4 a6 q7 p8 u_open u_epoch u_firstOffset u_position u_file u_firstTimestamp u_reported h0 n0) ({ frames := 0, cells := 0, slots := 0, locals := 0 } : Room).cells ({ frames := 0, cells := 0, slots := 0, locals := 0 } : Room).slots (s₁.setTop (entryFrame m #[(.ref a1), (.int p2), (.long q3), (.long q4), (.ref a6), (.long q7), (.int p8)] 10))
  refine Goes.pre (fun t kt => castTop (ef_rm8r m a1 p2 q3 q4 a6 q7 p8) kt) ?_
  show Goes p e below s _ _ _ (s₁.setTop (mkF m 0 #[.val (.ref a1), .val (.int p2), .val (.long q3), .second, .val (.long q4), .second, .val (.ref a6), .val (.long q7), .second, .val (.int p8)] []))
  refine Goes.pre (fun t kt => XS.aloadN X0.here hx rfl (hb hby d8_0) rfl rfl kt) ?_
  show Goes p e below s _ _ _ (s₁.setTop (mkF m 1 #[.val (.ref a1), .val (.int p2), .val (.long q3), .second, .val (.long q4), .second, .val (.ref a6), .val (.long q7), .second, .val (.int p8)] [(.ref a1)]))
  refine Goes.pre (fun t kt => XS.iconst X0.here hx rfl (hb hby d8_1) kt) ?_
  show Goes p e below s _ _ _ (s₁.setTop (mkF m 2 #[.val (.ref a1), .val (.int p2), .val (.long q3), .second, .val (.long q4), .second, .val (.ref a6), .val (.long q7), .second, .val (.int p8)] [(.int (1 : Int32)), (.ref a1)]))
  obtain ⟨T1, h1, X1, e1, W1, st1⟩ := putFN X0 hx hZ hown (hw _ (List.mem_of_getElem? (i := 50) rfl)) Via.refl e0 pf_F_a1_com_example_seqlint_seqlint_kafka_Transaction_open pf_E_a1 (Or.inl (hw _ (List.mem_of_getElem? (i := 51) rfl))) (hw _ (List.mem_of_getElem? (i := 31) rfl)) (ty := .boolean) (v' := (.int (1 : Int32))) (by decide) rfl rfl (g := (mkF m 2 #[.val (.ref a1), .val (.int p2), .val (.long q3), .second, .val (.long q4), .second, .val (.ref a6), .val (.long q7), .second, .val (.int p8)] [(.int (1 : Int32)), (.ref a1)])) rfl rfl (hb hby d8_2)
  refine Goes.pre st1 ?_
  have Z1 : n0 ≤ h1.size := Nat.le_trans Z0 (Keep.of_wr W1).1
  have N1 := Fr.snoc X1 N0 pf_G_a1
  have K1 := K0.wr W1 (Or.inl (List.mem_of_getElem? (i := 0) rfl))
  have Fw1 : Fld Z h1 a1 "com/example/seqlint/seqlint/kafka/Transaction" "open" "Z" (.int (1 : Int32)) := pf_F_a1_com_example_seqlint_seqlint_kafka_Transaction_open.same W1
  show Goes p e below s _ _ _ (T1.setTop (mkF m 5 #[.val (.ref a1), .val (.int p2), .val (.long q3), .second, .val (.long q4), .second, .val (.ref a6), .val (.long q7), .second, .val (.int p8)] []))
  refine Goes.pre (fun t kt => XS.aloadN X1.here hx rfl (hb hby d8_5) rfl rfl kt) ?_
  show Goes p e below s _ _ _ (T1.setTop (mkF m 6 #[.val (.ref a1), .val (.int p2), .val (.long q3), .second, .val (.long q4), .second, .val (.ref a6), .val (.long q7), .second, .val (.int p8)] [(.ref a1)]))
  refine Goes.pre (fun t kt => XS.iloadN X1.here hx rfl (hb hby d8_6) rfl kt) ?_
  show Goes p e below s _ _ _ (T1.setTop (mkF m 7 #[.val (.ref a1), .val (.int p2), .val (.long q3), .second, .val (.long q4), .second, .val (.ref a6), .val (.long q7), .second, .val (.int p8)] [(.int p2), (.ref a1)]))
  have fc2 : Fld Z h1 a1 "com/example/seqlint/seqlint/kafka/Transaction" "epoch" "I" u_epoch := (pf_F_a1_com_example_seqlint_seqlint_kafka_Transaction_epoch.other W1 (Or.inr (slot_ne (Or.inl (hw _ (List.mem_of_getElem? (i := 39) rfl))) (Or.inl (hw _ (List.mem_of_getElem? (i := 51) rfl))) (by decide) (t := .int) (t' := .boolean) (by decide) (by decide))))
  have fc3 : Exa Z h1 a1 "com/example/seqlint/seqlint/kafka/Transaction" := (pf_E_a1.wr W1)
  obtain ⟨T4, h4, X4, e4, W4, st4⟩ := putF X1 hx hZ hown (host := "") (Or.inl (hw _ (List.mem_of_getElem? (i := 38) rfl))) Via.refl e1 fc2 fc3 (Or.inl (hw _ (List.mem_of_getElem? (i := 39) rfl))) (hw _ (List.mem_of_getElem? (i := 31) rfl)) (ty := .int) (by decide) rfl rfl (g := (mkF m 7 #[.val (.ref a1), .val (.int p2), .val (.long q3), .second, .val (.long q4), .second, .val (.ref a6), .val (.long q7), .second, .val (.int p8)] [(.int p2), (.ref a1)])) rfl rfl (hb hby d8_7)
  refine Goes.pre st4 ?_
  have Z4 : n0 ≤ h4.size := Nat.le_trans Z1 (Keep.of_wr W4).1
  have N4 := Fr.snoc X4 N1 pf_G_a1
  have K4 := K1.wr W4 (Or.inl (List.mem_of_getElem? (i := 0) rfl))
  have Fw4 : Fld Z h4 a1 "com/example/seqlint/seqlint/kafka/Transaction" "epoch" "I" (.int p2) := fc2.same W4
  show Goes p e below s _ _ _ (T4.setTop (mkF m 10 #[.val (.ref a1), .val (.int p2), .val (.long q3), .second, .val (.long q4), .second, .val (.ref a6), .val (.long q7), .second, .val (.int p8)] []))
  refine Goes.pre (fun t kt => XS.aloadN X4.here hx rfl (hb hby d8_10) rfl rfl kt) ?_
  show Goes p e below s _ _ _ (T4.setTop (mkF m 11 #[.val (.ref a1), .val (.int p2), .val (.long q3), .second, .val (.long q4), .second, .val (.ref a6), .val (.long q7), .second, .val (.int p8)] [(.ref a1)]))
  refine Goes.pre (fun t kt => XS.lloadN X4.here hx rfl (hb hby d8_11) rfl kt) ?_
  show Goes p e below s _ _ _ (T4.setTop (mkF m 12 #[.val (.ref a1), .val (.int p2), .val (.long q3), .second, .val (.long q4), .second, .val (.ref a6), .val (.long q7), .second, .val (.int p8)] [(.long q3), (.ref a1)]))
  have fc5 : Fld Z h4 a1 "com/example/seqlint/seqlint/kafka/Transaction" "firstOffset" "J" u_firstOffset := ((pf_F_a1_com_example_seqlint_seqlint_kafka_Transaction_firstOffset.other W1 (Or.inr (slot_ne (Or.inl (hw _ (List.mem_of_getElem? (i := 53) rfl))) (Or.inl (hw _ (List.mem_of_getElem? (i := 51) rfl))) (by decide) (t := .long) (t' := .boolean) (by decide) (by decide)))).other W4 (Or.inr (slot_ne (Or.inl (hw _ (List.mem_of_getElem? (i := 53) rfl))) (Or.inl (hw _ (List.mem_of_getElem? (i := 39) rfl))) (by decide) (t := .long) (t' := .int) (by decide) (by decide))))
  have fc6 : Exa Z h4 a1 "com/example/seqlint/seqlint/kafka/Transaction" := (fc3.wr W4)
  obtain ⟨T7, h7, X7, e7, W7, st7⟩ := putF X4 hx hZ hown (host := "") (Or.inl (hw _ (List.mem_of_getElem? (i := 52) rfl))) Via.refl e4 fc5 fc6 (Or.inl (hw _ (List.mem_of_getElem? (i := 53) rfl))) (hw _ (List.mem_of_getElem? (i := 31) rfl)) (ty := .long) (by decide) rfl rfl (g := (mkF m 12 #[.val (.ref a1), .val (.int p2), .val (.long q3), .second, .val (.long q4), .second, .val (.ref a6), .val (.long q7), .second, .val (.int p8)] [(.long q3), (.ref a1)])) rfl rfl (hb hby d8_12)
  refine Goes.pre st7 ?_
  have Z7 : n0 ≤ h7.size := Nat.le_trans Z4 (Keep.of_wr W7).1
  have N7 := Fr.snoc X7 N4 pf_G_a1
  have K7 := K4.wr W7 (Or.inl (List.mem_of_getElem? (i := 0) rfl))
  have Fw7 : Fld Z h7 a1 "com/example/seqlint/seqlint/kafka/Transaction" "firstOffset" "J" (.long q3) := fc5.same W7
  show Goes p e below s _ _ _ (T7.setTop (mkF m 15 #[.val (.ref a1), .val (.int p2), .val (.long q3), .second, .val (.long q4), .second, .val (.ref a6), .val (.long q7), .second, .val (.int p8)] []))
  refine Goes.pre (fun t kt => XS.aloadN X7.here hx rfl (hb hby d8_15) rfl rfl kt) ?_
  show Goes p e below s _ _ _ (T7.setTop (mkF m 16 #[.val (.ref a1), .val (.int p2), .val (.long q3), .second, .val (.long q4), .second, .val (.ref a6), .val (.long q7), .second, .val (.int p8)] [(.ref a1)]))
  refine Goes.pre (fun t kt => XS.lload X7.here hx rfl (hb hby d8_16) rfl kt) ?_
  show Goes p e below s _ _ _ (T7.setTop (mkF m 18 #[.val (.ref a1), .val (.int p2), .val (.long q3), .second, .val (.long q4), .second, .val (.ref a6), .val (.long q7), .second, .val (.int p8)] [(.long q4), (.ref a1)]))
  have fc8 : Fld Z h7 a1 "com/example/seqlint/seqlint/kafka/Transaction" "position" "J" u_position := (((pf_F_a1_com_example_seqlint_seqlint_kafka_Transaction_position.other W1 (Or.inr (slot_ne (Or.inl (hw _ (List.mem_of_getElem? (i := 55) rfl))) (Or.inl (hw _ (List.mem_of_getElem? (i := 51) rfl))) (by decide) (t := .long) (t' := .boolean) (by decide) (by decide)))).other W4 (Or.inr (slot_ne (Or.inl (hw _ (List.mem_of_getElem? (i := 55) rfl))) (Or.inl (hw _ (List.mem_of_getElem? (i := 39) rfl))) (by decide) (t := .long) (t' := .int) (by decide) (by decide)))).other W7 (Or.inr (slot_ne (Or.inl (hw _ (List.mem_of_getElem? (i := 55) rfl))) (Or.inl (hw _ (List.mem_of_getElem? (i := 53) rfl))) (by decide) (t := .long) (t' := .long) (by decide) (by decide))))
  have fc9 : Exa Z h7 a1 "com/example/seqlint/seqlint/kafka/Transaction" := (fc6.wr W7)
  obtain ⟨T10, h10, X10, e10, W10, st10⟩ := putF X7 hx hZ hown (host := "") (Or.inl (hw _ (List.mem_of_getElem? (i := 54) rfl))) Via.refl e7 fc8 fc9 (Or.inl (hw _ (List.mem_of_getElem? (i := 55) rfl))) (hw _ (List.mem_of_getElem? (i := 31) rfl)) (ty := .long) (by decide) rfl rfl (g := (mkF m 18 #[.val (.ref a1), .val (.int p2), .val (.long q3), .second, .val (.long q4), .second, .val (.ref a6), .val (.long q7), .second, .val (.int p8)] [(.long q4), (.ref a1)])) rfl rfl (hb hby d8_18)
  refine Goes.pre st10 ?_
  have Z10 : n0 ≤ h10.size := Nat.le_trans Z7 (Keep.of_wr W10).1
  have N10 := Fr.snoc X10 N7 pf_G_a1
  have K10 := K7.wr W10 (Or.inl (List.mem_of_getElem? (i := 0) rfl))
  have Fw10 : Fld Z h10 a1 "com/example/seqlint/seqlint/kafka/Transaction" "position" "J" (.long q4) := fc8.same W10
  show Goes p e below s _ _ _ (T10.setTop (mkF m 21 #[.val (.ref a1), .val (.int p2), .val (.long q3), .second, .val (.long q4), .second, .val (.ref a6), .val (.long q7), .second, .val (.int p8)] []))
  refine Goes.pre (fun t kt => XS.aloadN X10.here hx rfl (hb hby d8_21) rfl rfl kt) ?_
  show Goes p e below s _ _ _ (T10.setTop (mkF m 22 #[.val (.ref a1), .val (.int p2), .val (.long q3), .second, .val (.long q4), .second, .val (.ref a6), .val (.long q7), .second, .val (.int p8)] [(.ref a1)]))
  refine Goes.pre (fun t kt => XS.aload X10.here hx rfl (hb hby d8_22) rfl rfl kt) ?_
  show Goes p e below s _ _ _ (T10.setTop (mkF m 24 #[.val (.ref a1), .val (.int p2), .val (.long q3), .second, .val (.long q4), .second, .val (.ref a6), .val (.long q7), .second, .val (.int p8)] [(.ref a6), (.ref a1)]))
  have fc11 : Fld Z h10 a1 "com/example/seqlint/seqlint/kafka/Transaction" "file" "Ljava/lang/String;" u_file := ((((pf_F_a1_com_example_seqlint_seqlint_kafka_Transaction_file.other W1 (Or.inr (slot_ne (Or.inl (hw _ (List.mem_of_getElem? (i := 57) rfl))) (Or.inl (hw _ (List.mem_of_getElem? (i := 51) rfl))) (by decide) (t := (.object "java/lang/String")) (t' := .boolean) (by decide) (by decide)))).other W4 (Or.inr (slot_ne (Or.inl (hw _ (List.mem_of_getElem? (i := 57) rfl))) (Or.inl (hw _ (List.mem_of_getElem? (i := 39) rfl))) (by decide) (t := (.object "java/lang/String")) (t' := .int) (by decide) (by decide)))).other W7 (Or.inr (slot_ne (Or.inl (hw _ (List.mem_of_getElem? (i := 57) rfl))) (Or.inl (hw _ (List.mem_of_getElem? (i := 53) rfl))) (by decide) (t := (.object "java/lang/String")) (t' := .long) (by decide) (by decide)))).other W10 (Or.inr (slot_ne (Or.inl (hw _ (List.mem_of_getElem? (i := 57) rfl))) (Or.inl (hw _ (List.mem_of_getElem? (i := 55) rfl))) (by decide) (t := (.object "java/lang/String")) (t' := .long) (by decide) (by decide))))
  have fc12 : Exa Z h10 a1 "com/example/seqlint/seqlint/kafka/Transaction" := (fc9.wr W10)
  obtain ⟨T13, h13, X13, e13, W13, st13⟩ := putF X10 hx hZ hown (host := "") (Or.inl (hw _ (List.mem_of_getElem? (i := 56) rfl))) Via.refl e10 fc11 fc12 (Or.inl (hw _ (List.mem_of_getElem? (i := 57) rfl))) (hw _ (List.mem_of_getElem? (i := 31) rfl)) (ty := (.object "java/lang/String")) (by decide) rfl rfl (g := (mkF m 24 #[.val (.ref a1), .val (.int p2), .val (.long q3), .second, .val (.long q4), .second, .val (.ref a6), .val (.long q7), .second, .val (.int p8)] [(.ref a6), (.ref a1)])) rfl rfl (hb hby d8_24)
  refine Goes.pre st13 ?_
  have Z13 : n0 ≤ h13.size := Nat.le_trans Z10 (Keep.of_wr W13).1
  have N13 := Fr.snoc X13 N10 pf_G_a1
  have K13 := K10.wr W13 (Or.inl (List.mem_of_getElem? (i := 0) rfl))
  have Fw13 : Fld Z h13 a1 "com/example/seqlint/seqlint/kafka/Transaction" "file" "Ljava/lang/String;" (.ref a6) := fc11.same W13
  show Goes p e below s _ _ _ (T13.setTop (mkF m 27 #[.val (.ref a1), .val (.int p2), .val (.long q3), .second, .val (.long q4), .second, .val (.ref a6), .val (.long q7), .second, .val (.int p8)] []))
  refine Goes.pre (fun t kt => XS.aloadN X13.here hx rfl (hb hby d8_27) rfl rfl kt) ?_
  show Goes p e below s _ _ _ (T13.setTop (mkF m 28 #[.val (.ref a1), .val (.int p2), .val (.long q3), .second, .val (.long q4), .second, .val (.ref a6), .val (.long q7), .second, .val (.int p8)] [(.ref a1)]))
  refine Goes.pre (fun t kt => XS.lload X13.here hx rfl (hb hby d8_28) rfl kt) ?_
  show Goes p e below s _ _ _ (T13.setTop (mkF m 30 #[.val (.ref a1), .val (.int p2), .val (.long q3), .second, .val (.long q4), .second, .val (.ref a6), .val (.long q7), .second, .val (.int p8)] [(.long q7), (.ref a1)]))
  have fc14 : Fld Z h13 a1 "com/example/seqlint/seqlint/kafka/Transaction" "firstTimestamp" "J" u_firstTimestamp := (((((pf_F_a1_com_example_seqlint_seqlint_kafka_Transaction_firstTimestamp.other W1 (Or.inr (slot_ne (Or.inl (hw _ (List.mem_of_getElem? (i := 59) rfl))) (Or.inl (hw _ (List.mem_of_getElem? (i := 51) rfl))) (by decide) (t := .long) (t' := .boolean) (by decide) (by decide)))).other W4 (Or.inr (slot_ne (Or.inl (hw _ (List.mem_of_getElem? (i := 59) rfl))) (Or.inl (hw _ (List.mem_of_getElem? (i := 39) rfl))) (by decide) (t := .long) (t' := .int) (by decide) (by decide)))).other W7 (Or.inr (slot_ne (Or.inl (hw _ (List.mem_of_getElem? (i := 59) rfl))) (Or.inl (hw _ (List.mem_of_getElem? (i := 53) rfl))) (by decide) (t := .long) (t' := .long) (by decide) (by decide)))).other W10 (Or.inr (slot_ne (Or.inl (hw _ (List.mem_of_getElem? (i := 59) rfl))) (Or.inl (hw _ (List.mem_of_getElem? (i := 55) rfl))) (by decide) (t := .long) (t' := .long) (by decide) (by decide)))).other W13 (Or.inr (slot_ne (Or.inl (hw _ (List.mem_of_getElem? (i := 59) rfl))) (Or.inl (hw _ (List.mem_of_getElem? (i := 57) rfl))) (by decide) (t := .long) (t' := (.object "java/lang/String")) (by decide) (by decide))))
  have fc15 : Exa Z h13 a1 "com/example/seqlint/seqlint/kafka/Transaction" := (fc12.wr W13)
  obtain ⟨T16, h16, X16, e16, W16, st16⟩ := putF X13 hx hZ hown (host := "") (Or.inl (hw _ (List.mem_of_getElem? (i := 58) rfl))) Via.refl e13 fc14 fc15 (Or.inl (hw _ (List.mem_of_getElem? (i := 59) rfl))) (hw _ (List.mem_of_getElem? (i := 31) rfl)) (ty := .long) (by decide) rfl rfl (g := (mkF m 30 #[.val (.ref a1), .val (.int p2), .val (.long q3), .second, .val (.long q4), .second, .val (.ref a6), .val (.long q7), .second, .val (.int p8)] [(.long q7), (.ref a1)])) rfl rfl (hb hby d8_30)
  refine Goes.pre st16 ?_
  have Z16 : n0 ≤ h16.size := Nat.le_trans Z13 (Keep.of_wr W16).1
  have N16 := Fr.snoc X16 N13 pf_G_a1
  have K16 := K13.wr W16 (Or.inl (List.mem_of_getElem? (i := 0) rfl))
  have Fw16 : Fld Z h16 a1 "com/example/seqlint/seqlint/kafka/Transaction" "firstTimestamp" "J" (.long q7) := fc14.same W16
  show Goes p e below s _ _ _ (T16.setTop (mkF m 33 #[.val (.ref a1), .val (.int p2), .val (.long q3), .second, .val (.long q4), .second, .val (.ref a6), .val (.long q7), .second, .val (.int p8)] []))
  refine Goes.pre (fun t kt => XS.aloadN X16.here hx rfl (hb hby d8_33) rfl rfl kt) ?_
  show Goes p e below s _ _ _ (T16.setTop (mkF m 34 #[.val (.ref a1), .val (.int p2), .val (.long q3), .second, .val (.long q4), .second, .val (.ref a6), .val (.long q7), .second, .val (.int p8)] [(.ref a1)]))
  refine Goes.pre (fun t kt => XS.iload X16.here hx rfl (hb hby d8_34) rfl kt) ?_
  show Goes p e below s _ _ _ (T16.setTop (mkF m 36 #[.val (.ref a1), .val (.int p2), .val (.long q3), .second, .val (.long q4), .second, .val (.ref a6), .val (.long q7), .second, .val (.int p8)] [(.int p8), (.ref a1)]))
  have fc17 : Fld Z h16 a1 "com/example/seqlint/seqlint/kafka/Transaction" "reported" "Z" u_reported := ((((((pf_F_a1_com_example_seqlint_seqlint_kafka_Transaction_reported.other W1 (Or.inr (slot_ne (Or.inl (hw _ (List.mem_of_getElem? (i := 61) rfl))) (Or.inl (hw _ (List.mem_of_getElem? (i := 51) rfl))) (by decide) (t := .boolean) (t' := .boolean) (by decide) (by decide)))).other W4 (Or.inr (slot_ne (Or.inl (hw _ (List.mem_of_getElem? (i := 61) rfl))) (Or.inl (hw _ (List.mem_of_getElem? (i := 39) rfl))) (by decide) (t := .boolean) (t' := .int) (by decide) (by decide)))).other W7 (Or.inr (slot_ne (Or.inl (hw _ (List.mem_of_getElem? (i := 61) rfl))) (Or.inl (hw _ (List.mem_of_getElem? (i := 53) rfl))) (by decide) (t := .boolean) (t' := .long) (by decide) (by decide)))).other W10 (Or.inr (slot_ne (Or.inl (hw _ (List.mem_of_getElem? (i := 61) rfl))) (Or.inl (hw _ (List.mem_of_getElem? (i := 55) rfl))) (by decide) (t := .boolean) (t' := .long) (by decide) (by decide)))).other W13 (Or.inr (slot_ne (Or.inl (hw _ (List.mem_of_getElem? (i := 61) rfl))) (Or.inl (hw _ (List.mem_of_getElem? (i := 57) rfl))) (by decide) (t := .boolean) (t' := (.object "java/lang/String")) (by decide) (by decide)))).other W16 (Or.inr (slot_ne (Or.inl (hw _ (List.mem_of_getElem? (i := 61) rfl))) (Or.inl (hw _ (List.mem_of_getElem? (i := 59) rfl))) (by decide) (t := .boolean) (t' := .long) (by decide) (by decide))))
  have fc18 : Exa Z h16 a1 "com/example/seqlint/seqlint/kafka/Transaction" := (fc15.wr W16)
  obtain ⟨T19, h19, X19, e19, W19, st19⟩ := putFN X16 hx hZ hown (hw _ (List.mem_of_getElem? (i := 60) rfl)) Via.refl e16 fc17 fc18 (Or.inl (hw _ (List.mem_of_getElem? (i := 61) rfl))) (hw _ (List.mem_of_getElem? (i := 31) rfl)) (ty := .boolean) (v' := (.int (p8 &&& 1))) (by decide) rfl (fits_nar_bool _) (g := (mkF m 36 #[.val (.ref a1), .val (.int p2), .val (.long q3), .second, .val (.long q4), .second, .val (.ref a6), .val (.long q7), .second, .val (.int p8)] [(.int p8), (.ref a1)])) rfl rfl (hb hby d8_36)
  refine Goes.pre st19 ?_
  have Z19 : n0 ≤ h19.size := Nat.le_trans Z16 (Keep.of_wr W19).1
  have N19 := Fr.snoc X19 N16 pf_G_a1
  have K19 := K16.wr W19 (Or.inl (List.mem_of_getElem? (i := 0) rfl))
  have Fw19 : Fld Z h19 a1 "com/example/seqlint/seqlint/kafka/Transaction" "reported" "Z" (.int (p8 &&& 1)) := fc17.same W19
  show Goes p e below s _ _ _ (T19.setTop (mkF m 39 #[.val (.ref a1), .val (.int p2), .val (.long q3), .second, .val (.long q4), .second, .val (.ref a6), .val (.long q7), .second, .val (.int p8)] []))
  have fc20 : Fld Z h19 a1 "com/example/seqlint/seqlint/kafka/Transaction" "open" "Z" (.int (1 : Int32)) := ((((((Fw1.other W4 (Or.inr (slot_ne (Or.inl (hw _ (List.mem_of_getElem? (i := 51) rfl))) (Or.inl (hw _ (List.mem_of_getElem? (i := 39) rfl))) (by decide) (t := .boolean) (t' := .int) (by decide) (by decide)))).other W7 (Or.inr (slot_ne (Or.inl (hw _ (List.mem_of_getElem? (i := 51) rfl))) (Or.inl (hw _ (List.mem_of_getElem? (i := 53) rfl))) (by decide) (t := .boolean) (t' := .long) (by decide) (by decide)))).other W10 (Or.inr (slot_ne (Or.inl (hw _ (List.mem_of_getElem? (i := 51) rfl))) (Or.inl (hw _ (List.mem_of_getElem? (i := 55) rfl))) (by decide) (t := .boolean) (t' := .long) (by decide) (by decide)))).other W13 (Or.inr (slot_ne (Or.inl (hw _ (List.mem_of_getElem? (i := 51) rfl))) (Or.inl (hw _ (List.mem_of_getElem? (i := 57) rfl))) (by decide) (t := .boolean) (t' := (.object "java/lang/String")) (by decide) (by decide)))).other W16 (Or.inr (slot_ne (Or.inl (hw _ (List.mem_of_getElem? (i := 51) rfl))) (Or.inl (hw _ (List.mem_of_getElem? (i := 59) rfl))) (by decide) (t := .boolean) (t' := .long) (by decide) (by decide)))).other W19 (Or.inr (slot_ne (Or.inl (hw _ (List.mem_of_getElem? (i := 51) rfl))) (Or.inl (hw _ (List.mem_of_getElem? (i := 61) rfl))) (by decide) (t := .boolean) (t' := .boolean) (by decide) (by decide))))
  have fc21 : Fld Z h19 a1 "com/example/seqlint/seqlint/kafka/Transaction" "epoch" "I" (.int p2) := (((((Fw4.other W7 (Or.inr (slot_ne (Or.inl (hw _ (List.mem_of_getElem? (i := 39) rfl))) (Or.inl (hw _ (List.mem_of_getElem? (i := 53) rfl))) (by decide) (t := .int) (t' := .long) (by decide) (by decide)))).other W10 (Or.inr (slot_ne (Or.inl (hw _ (List.mem_of_getElem? (i := 39) rfl))) (Or.inl (hw _ (List.mem_of_getElem? (i := 55) rfl))) (by decide) (t := .int) (t' := .long) (by decide) (by decide)))).other W13 (Or.inr (slot_ne (Or.inl (hw _ (List.mem_of_getElem? (i := 39) rfl))) (Or.inl (hw _ (List.mem_of_getElem? (i := 57) rfl))) (by decide) (t := .int) (t' := (.object "java/lang/String")) (by decide) (by decide)))).other W16 (Or.inr (slot_ne (Or.inl (hw _ (List.mem_of_getElem? (i := 39) rfl))) (Or.inl (hw _ (List.mem_of_getElem? (i := 59) rfl))) (by decide) (t := .int) (t' := .long) (by decide) (by decide)))).other W19 (Or.inr (slot_ne (Or.inl (hw _ (List.mem_of_getElem? (i := 39) rfl))) (Or.inl (hw _ (List.mem_of_getElem? (i := 61) rfl))) (by decide) (t := .int) (t' := .boolean) (by decide) (by decide))))
  have fc22 : Fld Z h19 a1 "com/example/seqlint/seqlint/kafka/Transaction" "firstOffset" "J" (.long q3) := ((((Fw7.other W10 (Or.inr (slot_ne (Or.inl (hw _ (List.mem_of_getElem? (i := 53) rfl))) (Or.inl (hw _ (List.mem_of_getElem? (i := 55) rfl))) (by decide) (t := .long) (t' := .long) (by decide) (by decide)))).other W13 (Or.inr (slot_ne (Or.inl (hw _ (List.mem_of_getElem? (i := 53) rfl))) (Or.inl (hw _ (List.mem_of_getElem? (i := 57) rfl))) (by decide) (t := .long) (t' := (.object "java/lang/String")) (by decide) (by decide)))).other W16 (Or.inr (slot_ne (Or.inl (hw _ (List.mem_of_getElem? (i := 53) rfl))) (Or.inl (hw _ (List.mem_of_getElem? (i := 59) rfl))) (by decide) (t := .long) (t' := .long) (by decide) (by decide)))).other W19 (Or.inr (slot_ne (Or.inl (hw _ (List.mem_of_getElem? (i := 53) rfl))) (Or.inl (hw _ (List.mem_of_getElem? (i := 61) rfl))) (by decide) (t := .long) (t' := .boolean) (by decide) (by decide))))
  have fc23 : Fld Z h19 a1 "com/example/seqlint/seqlint/kafka/Transaction" "position" "J" (.long q4) := (((Fw10.other W13 (Or.inr (slot_ne (Or.inl (hw _ (List.mem_of_getElem? (i := 55) rfl))) (Or.inl (hw _ (List.mem_of_getElem? (i := 57) rfl))) (by decide) (t := .long) (t' := (.object "java/lang/String")) (by decide) (by decide)))).other W16 (Or.inr (slot_ne (Or.inl (hw _ (List.mem_of_getElem? (i := 55) rfl))) (Or.inl (hw _ (List.mem_of_getElem? (i := 59) rfl))) (by decide) (t := .long) (t' := .long) (by decide) (by decide)))).other W19 (Or.inr (slot_ne (Or.inl (hw _ (List.mem_of_getElem? (i := 55) rfl))) (Or.inl (hw _ (List.mem_of_getElem? (i := 61) rfl))) (by decide) (t := .long) (t' := .boolean) (by decide) (by decide))))
  have fc24 : Fld Z h19 a1 "com/example/seqlint/seqlint/kafka/Transaction" "file" "Ljava/lang/String;" (.ref a6) := ((Fw13.other W16 (Or.inr (slot_ne (Or.inl (hw _ (List.mem_of_getElem? (i := 57) rfl))) (Or.inl (hw _ (List.mem_of_getElem? (i := 59) rfl))) (by decide) (t := (.object "java/lang/String")) (t' := .long) (by decide) (by decide)))).other W19 (Or.inr (slot_ne (Or.inl (hw _ (List.mem_of_getElem? (i := 57) rfl))) (Or.inl (hw _ (List.mem_of_getElem? (i := 61) rfl))) (by decide) (t := (.object "java/lang/String")) (t' := .boolean) (by decide) (by decide))))
  have fc25 : Fld Z h19 a1 "com/example/seqlint/seqlint/kafka/Transaction" "firstTimestamp" "J" (.long q7) := (Fw16.other W19 (Or.inr (slot_ne (Or.inl (hw _ (List.mem_of_getElem? (i := 59) rfl))) (Or.inl (hw _ (List.mem_of_getElem? (i := 61) rfl))) (by decide) (t := .long) (t' := .boolean) (by decide) (by decide))))
  refine Goes.ret X19 none (fun _ => rfl) (BodyLoose.notSynchronized Bd) (by decide) (by decide) (fun fs hr => X19.returnOut hx Bd.returns (hb hby d8_39) hr) ?_
  show Q_rm8r Z a1 p2 q3 q4 a6 q7 p8 u_open u_epoch u_firstOffset u_position u_file u_firstTimestamp u_reported h0 n0 _ T19.heap _
  rw [e19]
  exact ⟨rfl, N19, K19, fc20, fc21, fc22, fc23, fc24, fc25, Fw19⟩
def Q_rm8n (Z : State) (a1 : Addr) (p2 : Int32) (q3 : Int64) (q4 : Int64) (q7 : Int64) (p8 : Int32) (u_open : Value) (u_epoch : Value) (u_firstOffset : Value) (u_position : Value) (u_file : Value) (u_firstTimestamp : Value) (u_reported : Value) (h0 : Heap) (n0 : Nat) (v : Option Value) (h : Heap) (L : List Loc) : Prop := v = none ∧ Fr n0 L ∧ Keep h0 h [a1] ∧ (Fld Z h a1 "com/example/seqlint/seqlint/kafka/Transaction" "open" "Z" (.int (1 : Int32))) ∧ (Fld Z h a1 "com/example/seqlint/seqlint/kafka/Transaction" "epoch" "I" (.int p2)) ∧ (Fld Z h a1 "com/example/seqlint/seqlint/kafka/Transaction" "firstOffset" "J" (.long q3)) ∧ (Fld Z h a1 "com/example/seqlint/seqlint/kafka/Transaction" "position" "J" (.long q4)) ∧ (Fld Z h a1 "com/example/seqlint/seqlint/kafka/Transaction" "file" "Ljava/lang/String;" .null) ∧ (Fld Z h a1 "com/example/seqlint/seqlint/kafka/Transaction" "firstTimestamp" "J" (.long q7)) ∧ (Fld Z h a1 "com/example/seqlint/seqlint/kafka/Transaction" "reported" "Z" (.int (p8 &&& 1)))
theorem ef_rm8n (m : MethodId) (a1 : Addr) (p2 : Int32) (q3 : Int64) (q4 : Int64) (q7 : Int64) (p8 : Int32) : entryFrame m #[(.ref a1), (.int p2), (.long q3), (.long q4), .null, (.long q7), (.int p8)] 10 = mkF m 0 #[.val (.ref a1), .val (.int p2), .val (.long q3), .second, .val (.long q4), .second, .val .null, .val (.long q7), .second, .val (.int p8)] [] := by first | (simp [entryFrame, mkF, argsToLocals, Value.category]; done) | rfl
set_option maxRecDepth 65536 in
set_option maxHeartbeats 40000000 in
theorem rm8n (l : Launch) (Z : State) (a0 : Array Value) (hw : ∀ d ∈ tables_1, d.before a0 Z = true) (ws : List Jvm.Cond) (a1 : Addr) (p2 : Int32) (q3 : Int64) (q4 : Int64) (q7 : Int64) (p8 : Int32) (u_open : Value) (u_epoch : Value) (u_firstOffset : Value) (u_position : Value) (u_file : Value) (u_firstTimestamp : Value) (u_reported : Value) (h0 : Heap) (n0 : Nat) (Z0 : n0 ≤ h0.size) (pf_E_a1 : Exa Z h0 a1 "com/example/seqlint/seqlint/kafka/Transaction") (pf_G_a1 : n0 ≤ a1) (pf_F_a1_com_example_seqlint_seqlint_kafka_Transaction_open : Fld Z h0 a1 "com/example/seqlint/seqlint/kafka/Transaction" "open" "Z" u_open) (pf_F_a1_com_example_seqlint_seqlint_kafka_Transaction_epoch : Fld Z h0 a1 "com/example/seqlint/seqlint/kafka/Transaction" "epoch" "I" u_epoch) (pf_F_a1_com_example_seqlint_seqlint_kafka_Transaction_firstOffset : Fld Z h0 a1 "com/example/seqlint/seqlint/kafka/Transaction" "firstOffset" "J" u_firstOffset) (pf_F_a1_com_example_seqlint_seqlint_kafka_Transaction_position : Fld Z h0 a1 "com/example/seqlint/seqlint/kafka/Transaction" "position" "J" u_position) (pf_F_a1_com_example_seqlint_seqlint_kafka_Transaction_file : Fld Z h0 a1 "com/example/seqlint/seqlint/kafka/Transaction" "file" "Ljava/lang/String;" u_file) (pf_F_a1_com_example_seqlint_seqlint_kafka_Transaction_firstTimestamp : Fld Z h0 a1 "com/example/seqlint/seqlint/kafka/Transaction" "firstTimestamp" "J" u_firstTimestamp) (pf_F_a1_com_example_seqlint_seqlint_kafka_Transaction_reported : Fld Z h0 a1 "com/example/seqlint/seqlint/kafka/Transaction" "reported" "Z" u_reported) :
    MetFree l (⟨"com/example/seqlint/seqlint/kafka/Transaction", "open", "(SJJLjava/lang/String;JZ)V"⟩ : MethodName) (head1 (Jvm.Cond.code (⟨"com/example/seqlint/seqlint/kafka/Transaction", "open", "(SJJLjava/lang/String;JZ)V"⟩ : MethodName) prog_63_method_15_code 10 none :: ws) ({ frames := 0, cells := 0, slots := 0, locals := 0 } : Room)) (fun a U => a = #[(.ref a1), (.int p2), (.long q3), (.long q4), .null, (.long q7), (.int p8)] ∧ Z.Warmed39 U.vm ∧ U.heap = h0) (fun _ _ _ _ _ => True) (fun _ U o U' => ∃ v L, o = .returned v ∧ Q_rm8n Z a1 p2 q3 q4 q7 p8 u_open u_epoch u_firstOffset u_position u_file u_firstTimestamp u_reported h0 n0 v U'.heap L ∧ FrameEnd U o U' L ({ frames := 0, cells := 0, slots := 0, locals := 0 } : Room).cells ({ frames := 0, cells := 0, slots := 0, locals := 0 } : Room).slots) := by
  refine MetFree.of_bodySF (plainFor_of_name pn_0) hisR ?_
  intro p e s m args below meth c s₁ Bd hml0 hP hK
  obtain ⟨rfl, hZ, hh⟩ := hP
  have hx := Bd.exec
  have hby := Bd.bytes
  have hml : c.maxLocals = 10 := hml0
  have hown : s.vm.findClass "com/example/seqlint/seqlint/kafka/Transaction" = some m.cls := findClass_of_methodNamed Bd.named
  have hnm := (name_of_methodNamed Bd.named Bd.method).1
  have X0 : Stand p l e ({ frames := 0, cells := 0, slots := 0, locals := 0 } : Room) s m #[(.ref a1), (.int p2), (.long q3), (.long q4), .null, (.long q7), (.int p8)] below meth c s₁ [] 0 0 := Stand.of_body Bd
  have e0 : s₁.heap = h0 := by rw [← hh, Bd.state]; rfl
  have N0 := Fr.nil n0
  have K0 := Keep.refl h0 [a1]
  show Goes p e below s (Q_rm8n Z a1 p2 q3 q4 q7 p8 u_open u_epoch u_firstOffset u_position u_file u_firstTimestamp u_reported h0 n0) ({ frames := 0, cells := 0, slots := 0, locals := 0 } : Room).cells ({ frames := 0, cells := 0, slots := 0, locals := 0 } : Room).slots (s₁.setTop (entryFrame m #[(.ref a1), (.int p2), (.long q3), (.long q4), .null, (.long q7), (.int p8)] 10))
  refine Goes.pre (fun t kt => castTop (ef_rm8n m a1 p2 q3 q4 q7 p8) kt) ?_
  show Goes p e below s _ _ _ (s₁.setTop (mkF m 0 #[.val (.ref a1), .val (.int p2), .val (.long q3), .second, .val (.long q4), .second, .val .null, .val (.long q7), .second, .val (.int p8)] []))
  refine Goes.pre (fun t kt => XS.aloadN X0.here hx rfl (hb hby d8_0) rfl rfl kt) ?_
  show Goes p e below s _ _ _ (s₁.setTop (mkF m 1 #[.val (.ref a1), .val (.int p2), .val (.long q3), .second, .val (.long q4), .second, .val .null, .val (.long q7), .second, .val (.int p8)] [(.ref a1)]))
  refine Goes.pre (fun t kt => XS.iconst X0.here hx rfl (hb hby d8_1) kt) ?_
  show Goes p e below s _ _ _ (s₁.setTop (mkF m 2 #[.val (.ref a1), .val (.int p2), .val (.long q3), .second, .val (.long q4), .second, .val .null, .val (.long q7), .second, .val (.int p8)] [(.int (1 : Int32)), (.ref a1)]))
  obtain ⟨T1, h1, X1, e1, W1, st1⟩ := putFN X0 hx hZ hown (hw _ (List.mem_of_getElem? (i := 50) rfl)) Via.refl e0 pf_F_a1_com_example_seqlint_seqlint_kafka_Transaction_open pf_E_a1 (Or.inl (hw _ (List.mem_of_getElem? (i := 51) rfl))) (hw _ (List.mem_of_getElem? (i := 31) rfl)) (ty := .boolean) (v' := (.int (1 : Int32))) (by decide) rfl rfl (g := (mkF m 2 #[.val (.ref a1), .val (.int p2), .val (.long q3), .second, .val (.long q4), .second, .val .null, .val (.long q7), .second, .val (.int p8)] [(.int (1 : Int32)), (.ref a1)])) rfl rfl (hb hby d8_2)
  refine Goes.pre st1 ?_
  have Z1 : n0 ≤ h1.size := Nat.le_trans Z0 (Keep.of_wr W1).1
  have N1 := Fr.snoc X1 N0 pf_G_a1
  have K1 := K0.wr W1 (Or.inl (List.mem_of_getElem? (i := 0) rfl))
  have Fw1 : Fld Z h1 a1 "com/example/seqlint/seqlint/kafka/Transaction" "open" "Z" (.int (1 : Int32)) := pf_F_a1_com_example_seqlint_seqlint_kafka_Transaction_open.same W1
  show Goes p e below s _ _ _ (T1.setTop (mkF m 5 #[.val (.ref a1), .val (.int p2), .val (.long q3), .second, .val (.long q4), .second, .val .null, .val (.long q7), .second, .val (.int p8)] []))
  refine Goes.pre (fun t kt => XS.aloadN X1.here hx rfl (hb hby d8_5) rfl rfl kt) ?_
  show Goes p e below s _ _ _ (T1.setTop (mkF m 6 #[.val (.ref a1), .val (.int p2), .val (.long q3), .second, .val (.long q4), .second, .val .null, .val (.long q7), .second, .val (.int p8)] [(.ref a1)]))
  refine Goes.pre (fun t kt => XS.iloadN X1.here hx rfl (hb hby d8_6) rfl kt) ?_
  show Goes p e below s _ _ _ (T1.setTop (mkF m 7 #[.val (.ref a1), .val (.int p2), .val (.long q3), .second, .val (.long q4), .second, .val .null, .val (.long q7), .second, .val (.int p8)] [(.int p2), (.ref a1)]))
  have fc2 : Fld Z h1 a1 "com/example/seqlint/seqlint/kafka/Transaction" "epoch" "I" u_epoch := (pf_F_a1_com_example_seqlint_seqlint_kafka_Transaction_epoch.other W1 (Or.inr (slot_ne (Or.inl (hw _ (List.mem_of_getElem? (i := 39) rfl))) (Or.inl (hw _ (List.mem_of_getElem? (i := 51) rfl))) (by decide) (t := .int) (t' := .boolean) (by decide) (by decide))))
  have fc3 : Exa Z h1 a1 "com/example/seqlint/seqlint/kafka/Transaction" := (pf_E_a1.wr W1)
  obtain ⟨T4, h4, X4, e4, W4, st4⟩ := putF X1 hx hZ hown (host := "") (Or.inl (hw _ (List.mem_of_getElem? (i := 38) rfl))) Via.refl e1 fc2 fc3 (Or.inl (hw _ (List.mem_of_getElem? (i := 39) rfl))) (hw _ (List.mem_of_getElem? (i := 31) rfl)) (ty := .int) (by decide) rfl rfl (g := (mkF m 7 #[.val (.ref a1), .val (.int p2), .val (.long q3), .second, .val (.long q4), .second, .val .null, .val (.long q7), .second, .val (.int p8)] [(.int p2), (.ref a1)])) rfl rfl (hb hby d8_7)
  refine Goes.pre st4 ?_
  have Z4 : n0 ≤ h4.size := Nat.le_trans Z1 (Keep.of_wr W4).1
  have N4 := Fr.snoc X4 N1 pf_G_a1
  have K4 := K1.wr W4 (Or.inl (List.mem_of_getElem? (i := 0) rfl))
  have Fw4 : Fld Z h4 a1 "com/example/seqlint/seqlint/kafka/Transaction" "epoch" "I" (.int p2) := fc2.same W4
  show Goes p e below s _ _ _ (T4.setTop (mkF m 10 #[.val (.ref a1), .val (.int p2), .val (.long q3), .second, .val (.long q4), .second, .val .null, .val (.long q7), .second, .val (.int p8)] []))
  refine Goes.pre (fun t kt => XS.aloadN X4.here hx rfl (hb hby d8_10) rfl rfl kt) ?_
  show Goes p e below s _ _ _ (T4.setTop (mkF m 11 #[.val (.ref a1), .val (.int p2), .val (.long q3), .second, .val (.long q4), .second, .val .null, .val (.long q7), .second, .val (.int p8)] [(.ref a1)]))
  refine Goes.pre (fun t kt => XS.lloadN X4.here hx rfl (hb hby d8_11) rfl kt) ?_
  show Goes p e below s _ _ _ (T4.setTop (mkF m 12 #[.val (.ref a1), .val (.int p2), .val (.long q3), .second, .val (.long q4), .second, .val .null, .val (.long q7), .second, .val (.int p8)] [(.long q3), (.ref a1)]))
  have fc5 : Fld Z h4 a1 "com/example/seqlint/seqlint/kafka/Transaction" "firstOffset" "J" u_firstOffset := ((pf_F_a1_com_example_seqlint_seqlint_kafka_Transaction_firstOffset.other W1 (Or.inr (slot_ne (Or.inl (hw _ (List.mem_of_getElem? (i := 53) rfl))) (Or.inl (hw _ (List.mem_of_getElem? (i := 51) rfl))) (by decide) (t := .long) (t' := .boolean) (by decide) (by decide)))).other W4 (Or.inr (slot_ne (Or.inl (hw _ (List.mem_of_getElem? (i := 53) rfl))) (Or.inl (hw _ (List.mem_of_getElem? (i := 39) rfl))) (by decide) (t := .long) (t' := .int) (by decide) (by decide))))
  have fc6 : Exa Z h4 a1 "com/example/seqlint/seqlint/kafka/Transaction" := (fc3.wr W4)
  obtain ⟨T7, h7, X7, e7, W7, st7⟩ := putF X4 hx hZ hown (host := "") (Or.inl (hw _ (List.mem_of_getElem? (i := 52) rfl))) Via.refl e4 fc5 fc6 (Or.inl (hw _ (List.mem_of_getElem? (i := 53) rfl))) (hw _ (List.mem_of_getElem? (i := 31) rfl)) (ty := .long) (by decide) rfl rfl (g := (mkF m 12 #[.val (.ref a1), .val (.int p2), .val (.long q3), .second, .val (.long q4), .second, .val .null, .val (.long q7), .second, .val (.int p8)] [(.long q3), (.ref a1)])) rfl rfl (hb hby d8_12)
  refine Goes.pre st7 ?_
  have Z7 : n0 ≤ h7.size := Nat.le_trans Z4 (Keep.of_wr W7).1
  have N7 := Fr.snoc X7 N4 pf_G_a1
  have K7 := K4.wr W7 (Or.inl (List.mem_of_getElem? (i := 0) rfl))
  have Fw7 : Fld Z h7 a1 "com/example/seqlint/seqlint/kafka/Transaction" "firstOffset" "J" (.long q3) := fc5.same W7
  show Goes p e below s _ _ _ (T7.setTop (mkF m 15 #[.val (.ref a1), .val (.int p2), .val (.long q3), .second, .val (.long q4), .second, .val .null, .val (.long q7), .second, .val (.int p8)] []))
  refine Goes.pre (fun t kt => XS.aloadN X7.here hx rfl (hb hby d8_15) rfl rfl kt) ?_
  show Goes p e below s _ _ _ (T7.setTop (mkF m 16 #[.val (.ref a1), .val (.int p2), .val (.long q3), .second, .val (.long q4), .second, .val .null, .val (.long q7), .second, .val (.int p8)] [(.ref a1)]))
  refine Goes.pre (fun t kt => XS.lload X7.here hx rfl (hb hby d8_16) rfl kt) ?_
  show Goes p e below s _ _ _ (T7.setTop (mkF m 18 #[.val (.ref a1), .val (.int p2), .val (.long q3), .second, .val (.long q4), .second, .val .null, .val (.long q7), .second, .val (.int p8)] [(.long q4), (.ref a1)]))
  have fc8 : Fld Z h7 a1 "com/example/seqlint/seqlint/kafka/Transaction" "position" "J" u_position := (((pf_F_a1_com_example_seqlint_seqlint_kafka_Transaction_position.other W1 (Or.inr (slot_ne (Or.inl (hw _ (List.mem_of_getElem? (i := 55) rfl))) (Or.inl (hw _ (List.mem_of_getElem? (i := 51) rfl))) (by decide) (t := .long) (t' := .boolean) (by decide) (by decide)))).other W4 (Or.inr (slot_ne (Or.inl (hw _ (List.mem_of_getElem? (i := 55) rfl))) (Or.inl (hw _ (List.mem_of_getElem? (i := 39) rfl))) (by decide) (t := .long) (t' := .int) (by decide) (by decide)))).other W7 (Or.inr (slot_ne (Or.inl (hw _ (List.mem_of_getElem? (i := 55) rfl))) (Or.inl (hw _ (List.mem_of_getElem? (i := 53) rfl))) (by decide) (t := .long) (t' := .long) (by decide) (by decide))))
  have fc9 : Exa Z h7 a1 "com/example/seqlint/seqlint/kafka/Transaction" := (fc6.wr W7)
  obtain ⟨T10, h10, X10, e10, W10, st10⟩ := putF X7 hx hZ hown (host := "") (Or.inl (hw _ (List.mem_of_getElem? (i := 54) rfl))) Via.refl e7 fc8 fc9 (Or.inl (hw _ (List.mem_of_getElem? (i := 55) rfl))) (hw _ (List.mem_of_getElem? (i := 31) rfl)) (ty := .long) (by decide) rfl rfl (g := (mkF m 18 #[.val (.ref a1), .val (.int p2), .val (.long q3), .second, .val (.long q4), .second, .val .null, .val (.long q7), .second, .val (.int p8)] [(.long q4), (.ref a1)])) rfl rfl (hb hby d8_18)
  refine Goes.pre st10 ?_
  have Z10 : n0 ≤ h10.size := Nat.le_trans Z7 (Keep.of_wr W10).1
  have N10 := Fr.snoc X10 N7 pf_G_a1
  have K10 := K7.wr W10 (Or.inl (List.mem_of_getElem? (i := 0) rfl))
  have Fw10 : Fld Z h10 a1 "com/example/seqlint/seqlint/kafka/Transaction" "position" "J" (.long q4) := fc8.same W10
  show Goes p e below s _ _ _ (T10.setTop (mkF m 21 #[.val (.ref a1), .val (.int p2), .val (.long q3), .second, .val (.long q4), .second, .val .null, .val (.long q7), .second, .val (.int p8)] []))
  refine Goes.pre (fun t kt => XS.aloadN X10.here hx rfl (hb hby d8_21) rfl rfl kt) ?_
  show Goes p e below s _ _ _ (T10.setTop (mkF m 22 #[.val (.ref a1), .val (.int p2), .val (.long q3), .second, .val (.long q4), .second, .val .null, .val (.long q7), .second, .val (.int p8)] [(.ref a1)]))
  refine Goes.pre (fun t kt => XS.aload X10.here hx rfl (hb hby d8_22) rfl rfl kt) ?_
  show Goes p e below s _ _ _ (T10.setTop (mkF m 24 #[.val (.ref a1), .val (.int p2), .val (.long q3), .second, .val (.long q4), .second, .val .null, .val (.long q7), .second, .val (.int p8)] [.null, (.ref a1)]))
  have fc11 : Fld Z h10 a1 "com/example/seqlint/seqlint/kafka/Transaction" "file" "Ljava/lang/String;" u_file := ((((pf_F_a1_com_example_seqlint_seqlint_kafka_Transaction_file.other W1 (Or.inr (slot_ne (Or.inl (hw _ (List.mem_of_getElem? (i := 57) rfl))) (Or.inl (hw _ (List.mem_of_getElem? (i := 51) rfl))) (by decide) (t := (.object "java/lang/String")) (t' := .boolean) (by decide) (by decide)))).other W4 (Or.inr (slot_ne (Or.inl (hw _ (List.mem_of_getElem? (i := 57) rfl))) (Or.inl (hw _ (List.mem_of_getElem? (i := 39) rfl))) (by decide) (t := (.object "java/lang/String")) (t' := .int) (by decide) (by decide)))).other W7 (Or.inr (slot_ne (Or.inl (hw _ (List.mem_of_getElem? (i := 57) rfl))) (Or.inl (hw _ (List.mem_of_getElem? (i := 53) rfl))) (by decide) (t := (.object "java/lang/String")) (t' := .long) (by decide) (by decide)))).other W10 (Or.inr (slot_ne (Or.inl (hw _ (List.mem_of_getElem? (i := 57) rfl))) (Or.inl (hw _ (List.mem_of_getElem? (i := 55) rfl))) (by decide) (t := (.object "java/lang/String")) (t' := .long) (by decide) (by decide))))
  have fc12 : Exa Z h10 a1 "com/example/seqlint/seqlint/kafka/Transaction" := (fc9.wr W10)
  obtain ⟨T13, h13, X13, e13, W13, st13⟩ := putF X10 hx hZ hown (host := "") (Or.inl (hw _ (List.mem_of_getElem? (i := 56) rfl))) Via.refl e10 fc11 fc12 (Or.inl (hw _ (List.mem_of_getElem? (i := 57) rfl))) (hw _ (List.mem_of_getElem? (i := 31) rfl)) (ty := (.object "java/lang/String")) (by decide) rfl rfl (g := (mkF m 24 #[.val (.ref a1), .val (.int p2), .val (.long q3), .second, .val (.long q4), .second, .val .null, .val (.long q7), .second, .val (.int p8)] [.null, (.ref a1)])) rfl rfl (hb hby d8_24)
  refine Goes.pre st13 ?_
  have Z13 : n0 ≤ h13.size := Nat.le_trans Z10 (Keep.of_wr W13).1
  have N13 := Fr.snoc X13 N10 pf_G_a1
  have K13 := K10.wr W13 (Or.inl (List.mem_of_getElem? (i := 0) rfl))
  have Fw13 : Fld Z h13 a1 "com/example/seqlint/seqlint/kafka/Transaction" "file" "Ljava/lang/String;" .null := fc11.same W13
  show Goes p e below s _ _ _ (T13.setTop (mkF m 27 #[.val (.ref a1), .val (.int p2), .val (.long q3), .second, .val (.long q4), .second, .val .null, .val (.long q7), .second, .val (.int p8)] []))
  refine Goes.pre (fun t kt => XS.aloadN X13.here hx rfl (hb hby d8_27) rfl rfl kt) ?_
  show Goes p e below s _ _ _ (T13.setTop (mkF m 28 #[.val (.ref a1), .val (.int p2), .val (.long q3), .second, .val (.long q4), .second, .val .null, .val (.long q7), .second, .val (.int p8)] [(.ref a1)]))
  refine Goes.pre (fun t kt => XS.lload X13.here hx rfl (hb hby d8_28) rfl kt) ?_
  show Goes p e below s _ _ _ (T13.setTop (mkF m 30 #[.val (.ref a1), .val (.int p2), .val (.long q3), .second, .val (.long q4), .second, .val .null, .val (.long q7), .second, .val (.int p8)] [(.long q7), (.ref a1)]))
  have fc14 : Fld Z h13 a1 "com/example/seqlint/seqlint/kafka/Transaction" "firstTimestamp" "J" u_firstTimestamp := (((((pf_F_a1_com_example_seqlint_seqlint_kafka_Transaction_firstTimestamp.other W1 (Or.inr (slot_ne (Or.inl (hw _ (List.mem_of_getElem? (i := 59) rfl))) (Or.inl (hw _ (List.mem_of_getElem? (i := 51) rfl))) (by decide) (t := .long) (t' := .boolean) (by decide) (by decide)))).other W4 (Or.inr (slot_ne (Or.inl (hw _ (List.mem_of_getElem? (i := 59) rfl))) (Or.inl (hw _ (List.mem_of_getElem? (i := 39) rfl))) (by decide) (t := .long) (t' := .int) (by decide) (by decide)))).other W7 (Or.inr (slot_ne (Or.inl (hw _ (List.mem_of_getElem? (i := 59) rfl))) (Or.inl (hw _ (List.mem_of_getElem? (i := 53) rfl))) (by decide) (t := .long) (t' := .long) (by decide) (by decide)))).other W10 (Or.inr (slot_ne (Or.inl (hw _ (List.mem_of_getElem? (i := 59) rfl))) (Or.inl (hw _ (List.mem_of_getElem? (i := 55) rfl))) (by decide) (t := .long) (t' := .long) (by decide) (by decide)))).other W13 (Or.inr (slot_ne (Or.inl (hw _ (List.mem_of_getElem? (i := 59) rfl))) (Or.inl (hw _ (List.mem_of_getElem? (i := 57) rfl))) (by decide) (t := .long) (t' := (.object "java/lang/String")) (by decide) (by decide))))
  have fc15 : Exa Z h13 a1 "com/example/seqlint/seqlint/kafka/Transaction" := (fc12.wr W13)
  obtain ⟨T16, h16, X16, e16, W16, st16⟩ := putF X13 hx hZ hown (host := "") (Or.inl (hw _ (List.mem_of_getElem? (i := 58) rfl))) Via.refl e13 fc14 fc15 (Or.inl (hw _ (List.mem_of_getElem? (i := 59) rfl))) (hw _ (List.mem_of_getElem? (i := 31) rfl)) (ty := .long) (by decide) rfl rfl (g := (mkF m 30 #[.val (.ref a1), .val (.int p2), .val (.long q3), .second, .val (.long q4), .second, .val .null, .val (.long q7), .second, .val (.int p8)] [(.long q7), (.ref a1)])) rfl rfl (hb hby d8_30)
  refine Goes.pre st16 ?_
  have Z16 : n0 ≤ h16.size := Nat.le_trans Z13 (Keep.of_wr W16).1
  have N16 := Fr.snoc X16 N13 pf_G_a1
  have K16 := K13.wr W16 (Or.inl (List.mem_of_getElem? (i := 0) rfl))
  have Fw16 : Fld Z h16 a1 "com/example/seqlint/seqlint/kafka/Transaction" "firstTimestamp" "J" (.long q7) := fc14.same W16
  show Goes p e below s _ _ _ (T16.setTop (mkF m 33 #[.val (.ref a1), .val (.int p2), .val (.long q3), .second, .val (.long q4), .second, .val .null, .val (.long q7), .second, .val (.int p8)] []))
  refine Goes.pre (fun t kt => XS.aloadN X16.here hx rfl (hb hby d8_33) rfl rfl kt) ?_
  show Goes p e below s _ _ _ (T16.setTop (mkF m 34 #[.val (.ref a1), .val (.int p2), .val (.long q3), .second, .val (.long q4), .second, .val .null, .val (.long q7), .second, .val (.int p8)] [(.ref a1)]))
  refine Goes.pre (fun t kt => XS.iload X16.here hx rfl (hb hby d8_34) rfl kt) ?_
  show Goes p e below s _ _ _ (T16.setTop (mkF m 36 #[.val (.ref a1), .val (.int p2), .val (.long q3), .second, .val (.long q4), .second, .val .null, .val (.long q7), .second, .val (.int p8)] [(.int p8), (.ref a1)]))
  have fc17 : Fld Z h16 a1 "com/example/seqlint/seqlint/kafka/Transaction" "reported" "Z" u_reported := ((((((pf_F_a1_com_example_seqlint_seqlint_kafka_Transaction_reported.other W1 (Or.inr (slot_ne (Or.inl (hw _ (List.mem_of_getElem? (i := 61) rfl))) (Or.inl (hw _ (List.mem_of_getElem? (i := 51) rfl))) (by decide) (t := .boolean) (t' := .boolean) (by decide) (by decide)))).other W4 (Or.inr (slot_ne (Or.inl (hw _ (List.mem_of_getElem? (i := 61) rfl))) (Or.inl (hw _ (List.mem_of_getElem? (i := 39) rfl))) (by decide) (t := .boolean) (t' := .int) (by decide) (by decide)))).other W7 (Or.inr (slot_ne (Or.inl (hw _ (List.mem_of_getElem? (i := 61) rfl))) (Or.inl (hw _ (List.mem_of_getElem? (i := 53) rfl))) (by decide) (t := .boolean) (t' := .long) (by decide) (by decide)))).other W10 (Or.inr (slot_ne (Or.inl (hw _ (List.mem_of_getElem? (i := 61) rfl))) (Or.inl (hw _ (List.mem_of_getElem? (i := 55) rfl))) (by decide) (t := .boolean) (t' := .long) (by decide) (by decide)))).other W13 (Or.inr (slot_ne (Or.inl (hw _ (List.mem_of_getElem? (i := 61) rfl))) (Or.inl (hw _ (List.mem_of_getElem? (i := 57) rfl))) (by decide) (t := .boolean) (t' := (.object "java/lang/String")) (by decide) (by decide)))).other W16 (Or.inr (slot_ne (Or.inl (hw _ (List.mem_of_getElem? (i := 61) rfl))) (Or.inl (hw _ (List.mem_of_getElem? (i := 59) rfl))) (by decide) (t := .boolean) (t' := .long) (by decide) (by decide))))
  have fc18 : Exa Z h16 a1 "com/example/seqlint/seqlint/kafka/Transaction" := (fc15.wr W16)
  obtain ⟨T19, h19, X19, e19, W19, st19⟩ := putFN X16 hx hZ hown (hw _ (List.mem_of_getElem? (i := 60) rfl)) Via.refl e16 fc17 fc18 (Or.inl (hw _ (List.mem_of_getElem? (i := 61) rfl))) (hw _ (List.mem_of_getElem? (i := 31) rfl)) (ty := .boolean) (v' := (.int (p8 &&& 1))) (by decide) rfl (fits_nar_bool _) (g := (mkF m 36 #[.val (.ref a1), .val (.int p2), .val (.long q3), .second, .val (.long q4), .second, .val .null, .val (.long q7), .second, .val (.int p8)] [(.int p8), (.ref a1)])) rfl rfl (hb hby d8_36)
  refine Goes.pre st19 ?_
  have Z19 : n0 ≤ h19.size := Nat.le_trans Z16 (Keep.of_wr W19).1
  have N19 := Fr.snoc X19 N16 pf_G_a1
  have K19 := K16.wr W19 (Or.inl (List.mem_of_getElem? (i := 0) rfl))
  have Fw19 : Fld Z h19 a1 "com/example/seqlint/seqlint/kafka/Transaction" "reported" "Z" (.int (p8 &&& 1)) := fc17.same W19
  show Goes p e below s _ _ _ (T19.setTop (mkF m 39 #[.val (.ref a1), .val (.int p2), .val (.long q3), .second, .val (.long q4), .second, .val .null, .val (.long q7), .second, .val (.int p8)] []))
  have fc20 : Fld Z h19 a1 "com/example/seqlint/seqlint/kafka/Transaction" "open" "Z" (.int (1 : Int32)) := ((((((Fw1.other W4 (Or.inr (slot_ne (Or.inl (hw _ (List.mem_of_getElem? (i := 51) rfl))) (Or.inl (hw _ (List.mem_of_getElem? (i := 39) rfl))) (by decide) (t := .boolean) (t' := .int) (by decide) (by decide)))).other W7 (Or.inr (slot_ne (Or.inl (hw _ (List.mem_of_getElem? (i := 51) rfl))) (Or.inl (hw _ (List.mem_of_getElem? (i := 53) rfl))) (by decide) (t := .boolean) (t' := .long) (by decide) (by decide)))).other W10 (Or.inr (slot_ne (Or.inl (hw _ (List.mem_of_getElem? (i := 51) rfl))) (Or.inl (hw _ (List.mem_of_getElem? (i := 55) rfl))) (by decide) (t := .boolean) (t' := .long) (by decide) (by decide)))).other W13 (Or.inr (slot_ne (Or.inl (hw _ (List.mem_of_getElem? (i := 51) rfl))) (Or.inl (hw _ (List.mem_of_getElem? (i := 57) rfl))) (by decide) (t := .boolean) (t' := (.object "java/lang/String")) (by decide) (by decide)))).other W16 (Or.inr (slot_ne (Or.inl (hw _ (List.mem_of_getElem? (i := 51) rfl))) (Or.inl (hw _ (List.mem_of_getElem? (i := 59) rfl))) (by decide) (t := .boolean) (t' := .long) (by decide) (by decide)))).other W19 (Or.inr (slot_ne (Or.inl (hw _ (List.mem_of_getElem? (i := 51) rfl))) (Or.inl (hw _ (List.mem_of_getElem? (i := 61) rfl))) (by decide) (t := .boolean) (t' := .boolean) (by decide) (by decide))))
  have fc21 : Fld Z h19 a1 "com/example/seqlint/seqlint/kafka/Transaction" "epoch" "I" (.int p2) := (((((Fw4.other W7 (Or.inr (slot_ne (Or.inl (hw _ (List.mem_of_getElem? (i := 39) rfl))) (Or.inl (hw _ (List.mem_of_getElem? (i := 53) rfl))) (by decide) (t := .int) (t' := .long) (by decide) (by decide)))).other W10 (Or.inr (slot_ne (Or.inl (hw _ (List.mem_of_getElem? (i := 39) rfl))) (Or.inl (hw _ (List.mem_of_getElem? (i := 55) rfl))) (by decide) (t := .int) (t' := .long) (by decide) (by decide)))).other W13 (Or.inr (slot_ne (Or.inl (hw _ (List.mem_of_getElem? (i := 39) rfl))) (Or.inl (hw _ (List.mem_of_getElem? (i := 57) rfl))) (by decide) (t := .int) (t' := (.object "java/lang/String")) (by decide) (by decide)))).other W16 (Or.inr (slot_ne (Or.inl (hw _ (List.mem_of_getElem? (i := 39) rfl))) (Or.inl (hw _ (List.mem_of_getElem? (i := 59) rfl))) (by decide) (t := .int) (t' := .long) (by decide) (by decide)))).other W19 (Or.inr (slot_ne (Or.inl (hw _ (List.mem_of_getElem? (i := 39) rfl))) (Or.inl (hw _ (List.mem_of_getElem? (i := 61) rfl))) (by decide) (t := .int) (t' := .boolean) (by decide) (by decide))))
  have fc22 : Fld Z h19 a1 "com/example/seqlint/seqlint/kafka/Transaction" "firstOffset" "J" (.long q3) := ((((Fw7.other W10 (Or.inr (slot_ne (Or.inl (hw _ (List.mem_of_getElem? (i := 53) rfl))) (Or.inl (hw _ (List.mem_of_getElem? (i := 55) rfl))) (by decide) (t := .long) (t' := .long) (by decide) (by decide)))).other W13 (Or.inr (slot_ne (Or.inl (hw _ (List.mem_of_getElem? (i := 53) rfl))) (Or.inl (hw _ (List.mem_of_getElem? (i := 57) rfl))) (by decide) (t := .long) (t' := (.object "java/lang/String")) (by decide) (by decide)))).other W16 (Or.inr (slot_ne (Or.inl (hw _ (List.mem_of_getElem? (i := 53) rfl))) (Or.inl (hw _ (List.mem_of_getElem? (i := 59) rfl))) (by decide) (t := .long) (t' := .long) (by decide) (by decide)))).other W19 (Or.inr (slot_ne (Or.inl (hw _ (List.mem_of_getElem? (i := 53) rfl))) (Or.inl (hw _ (List.mem_of_getElem? (i := 61) rfl))) (by decide) (t := .long) (t' := .boolean) (by decide) (by decide))))
  have fc23 : Fld Z h19 a1 "com/example/seqlint/seqlint/kafka/Transaction" "position" "J" (.long q4) := (((Fw10.other W13 (Or.inr (slot_ne (Or.inl (hw _ (List.mem_of_getElem? (i := 55) rfl))) (Or.inl (hw _ (List.mem_of_getElem? (i := 57) rfl))) (by decide) (t := .long) (t' := (.object "java/lang/String")) (by decide) (by decide)))).other W16 (Or.inr (slot_ne (Or.inl (hw _ (List.mem_of_getElem? (i := 55) rfl))) (Or.inl (hw _ (List.mem_of_getElem? (i := 59) rfl))) (by decide) (t := .long) (t' := .long) (by decide) (by decide)))).other W19 (Or.inr (slot_ne (Or.inl (hw _ (List.mem_of_getElem? (i := 55) rfl))) (Or.inl (hw _ (List.mem_of_getElem? (i := 61) rfl))) (by decide) (t := .long) (t' := .boolean) (by decide) (by decide))))
  have fc24 : Fld Z h19 a1 "com/example/seqlint/seqlint/kafka/Transaction" "file" "Ljava/lang/String;" .null := ((Fw13.other W16 (Or.inr (slot_ne (Or.inl (hw _ (List.mem_of_getElem? (i := 57) rfl))) (Or.inl (hw _ (List.mem_of_getElem? (i := 59) rfl))) (by decide) (t := (.object "java/lang/String")) (t' := .long) (by decide) (by decide)))).other W19 (Or.inr (slot_ne (Or.inl (hw _ (List.mem_of_getElem? (i := 57) rfl))) (Or.inl (hw _ (List.mem_of_getElem? (i := 61) rfl))) (by decide) (t := (.object "java/lang/String")) (t' := .boolean) (by decide) (by decide))))
  have fc25 : Fld Z h19 a1 "com/example/seqlint/seqlint/kafka/Transaction" "firstTimestamp" "J" (.long q7) := (Fw16.other W19 (Or.inr (slot_ne (Or.inl (hw _ (List.mem_of_getElem? (i := 59) rfl))) (Or.inl (hw _ (List.mem_of_getElem? (i := 61) rfl))) (by decide) (t := .long) (t' := .boolean) (by decide) (by decide))))
  refine Goes.ret X19 none (fun _ => rfl) (BodyLoose.notSynchronized Bd) (by decide) (by decide) (fun fs hr => X19.returnOut hx Bd.returns (hb hby d8_39) hr) ?_
  show Q_rm8n Z a1 p2 q3 q4 q7 p8 u_open u_epoch u_firstOffset u_position u_file u_firstTimestamp u_reported h0 n0 _ T19.heap _
  rw [e19]
  exact ⟨rfl, N19, K19, fc20, fc21, fc22, fc23, fc24, fc25, Fw19⟩
theorem d9_0 : decode prog_63_method_4_code 0 = .ok (.aload_n 0, 1) := by decide +kernel
theorem d9_1 : decode prog_63_method_4_code 1 = .ok (.getfield 27, 3) := by decide +kernel
theorem d9_4 : decode prog_63_method_4_code 4 = .ok (.ireturn, 1) := by decide +kernel
def Q_rm9 (Z : State) (a1 : Addr) (h0 : Heap) (n0 : Nat) (v : Option Value) (h : Heap) (L : List Loc) : Prop := v = some (.int (1 : Int32)) ∧ Fr n0 L ∧ h = h0
theorem ef_rm9 (m : MethodId) (a1 : Addr) : entryFrame m #[(.ref a1)] 1 = mkF m 0 #[.val (.ref a1)] [] := by first | (simp [entryFrame, mkF, argsToLocals, Value.category]; done) | rfl
set_option maxRecDepth 65536 in
set_option maxHeartbeats 40000000 in
theorem rm9 (l : Launch) (Z : State) (a0 : Array Value) (hw : ∀ d ∈ tables_1, d.before a0 Z = true) (ws : List Jvm.Cond) (a1 : Addr) (h0 : Heap) (n0 : Nat) (Z0 : n0 ≤ h0.size) (pf_F_a1_com_example_seqlint_seqlint_kafka_Transaction_open : Fld Z h0 a1 "com/example/seqlint/seqlint/kafka/Transaction" "open" "Z" (.int (1 : Int32))) :
    MetFree l (⟨"com/example/seqlint/seqlint/kafka/Transaction", "isOpen", "()Z"⟩ : MethodName) (head1 (Jvm.Cond.code (⟨"com/example/seqlint/seqlint/kafka/Transaction", "isOpen", "()Z"⟩ : MethodName) prog_63_method_4_code 1 (some .boolean) :: ws) ({ frames := 0, cells := 0, slots := 0, locals := 0 } : Room)) (fun a U => a = #[(.ref a1)] ∧ Z.Warmed39 U.vm ∧ U.heap = h0) (fun _ _ _ _ _ => True) (fun _ U o U' => ∃ v L, o = .returned v ∧ Q_rm9 Z a1 h0 n0 v U'.heap L ∧ FrameEnd U o U' L ({ frames := 0, cells := 0, slots := 0, locals := 0 } : Room).cells ({ frames := 0, cells := 0, slots := 0, locals := 0 } : Room).slots) := by
  refine MetFree.of_bodySF (plainFor_of_name pn_0) hisR ?_
  intro p e s m args below meth c s₁ Bd hml0 hP hK
  obtain ⟨rfl, hZ, hh⟩ := hP
  have hx := Bd.exec
  have hby := Bd.bytes
  have hml : c.maxLocals = 1 := hml0
  have hown : s.vm.findClass "com/example/seqlint/seqlint/kafka/Transaction" = some m.cls := findClass_of_methodNamed Bd.named
  have hnm := (name_of_methodNamed Bd.named Bd.method).1
  have X0 : Stand p l e ({ frames := 0, cells := 0, slots := 0, locals := 0 } : Room) s m #[(.ref a1)] below meth c s₁ [] 0 0 := Stand.of_body Bd
  have e0 : s₁.heap = h0 := by rw [← hh, Bd.state]; rfl
  have N0 := Fr.nil n0
  show Goes p e below s (Q_rm9 Z a1 h0 n0) ({ frames := 0, cells := 0, slots := 0, locals := 0 } : Room).cells ({ frames := 0, cells := 0, slots := 0, locals := 0 } : Room).slots (s₁.setTop (entryFrame m #[(.ref a1)] 1))
  refine Goes.pre (fun t kt => castTop (ef_rm9 m a1) kt) ?_
  show Goes p e below s _ _ _ (s₁.setTop (mkF m 0 #[.val (.ref a1)] []))
  refine Goes.pre (fun t kt => XS.aloadN X0.here hx rfl (hb hby d9_0) rfl rfl kt) ?_
  show Goes p e below s _ _ _ (s₁.setTop (mkF m 1 #[.val (.ref a1)] [(.ref a1)]))
  obtain ⟨T1, X1, e1, st1⟩ := getF X0 hx hZ hown (host := "") (Or.inl (hw _ (List.mem_of_getElem? (i := 50) rfl))) Via.refl e0 pf_F_a1_com_example_seqlint_seqlint_kafka_Transaction_open (g := (mkF m 1 #[.val (.ref a1)] [(.ref a1)])) rfl rfl (hb hby d9_1)
  refine Goes.pre st1 ?_
  show Goes p e below s _ _ _ (T1.setTop (mkF m 4 #[.val (.ref a1)] [(.int (1 : Int32))]))
  refine Goes.ret X1 (some (.int (1 : Int32))) (fun h => by rw [Bd.returns] at h; cases h) (BodyLoose.notSynchronized Bd) (by decide) (by decide) (fun fs hr => retN X1 hx (t := .boolean) Bd.returns (by simp) (hb hby d9_4) hr) ?_
  show Q_rm9 Z a1 h0 n0 _ T1.heap _
  rw [e1]
  exact ⟨rfl, N0, rfl⟩
theorem d10_0 : decode prog_63_method_5_code 0 = .ok (.aload_n 0, 1) := by decide +kernel
theorem d10_1 : decode prog_63_method_5_code 1 = .ok (.getfield 12, 3) := by decide +kernel
theorem d10_4 : decode prog_63_method_5_code 4 = .ok (.i2s, 1) := by decide +kernel
theorem d10_5 : decode prog_63_method_5_code 5 = .ok (.ireturn, 1) := by decide +kernel
def Q_rm10 (Z : State) (a1 : Addr) (w : Int32) (h0 : Heap) (n0 : Nat) (v : Option Value) (h : Heap) (L : List Loc) : Prop := v = some (.int ((w.toInt16.toInt32).toInt16.toInt32)) ∧ Fr n0 L ∧ h = h0
theorem ef_rm10 (m : MethodId) (a1 : Addr) : entryFrame m #[(.ref a1)] 1 = mkF m 0 #[.val (.ref a1)] [] := by first | (simp [entryFrame, mkF, argsToLocals, Value.category]; done) | rfl
set_option maxRecDepth 65536 in
set_option maxHeartbeats 40000000 in
theorem rm10 (l : Launch) (Z : State) (a0 : Array Value) (hw : ∀ d ∈ tables_1, d.before a0 Z = true) (ws : List Jvm.Cond) (a1 : Addr) (w : Int32) (h0 : Heap) (n0 : Nat) (Z0 : n0 ≤ h0.size) (pf_F_a1_com_example_seqlint_seqlint_kafka_Transaction_epoch : Fld Z h0 a1 "com/example/seqlint/seqlint/kafka/Transaction" "epoch" "I" (.int w)) :
    MetFree l (⟨"com/example/seqlint/seqlint/kafka/Transaction", "epoch", "()S"⟩ : MethodName) (head1 (Jvm.Cond.code (⟨"com/example/seqlint/seqlint/kafka/Transaction", "epoch", "()S"⟩ : MethodName) prog_63_method_5_code 1 (some .short) :: ws) ({ frames := 0, cells := 0, slots := 0, locals := 0 } : Room)) (fun a U => a = #[(.ref a1)] ∧ Z.Warmed39 U.vm ∧ U.heap = h0) (fun _ _ _ _ _ => True) (fun _ U o U' => ∃ v L, o = .returned v ∧ Q_rm10 Z a1 w h0 n0 v U'.heap L ∧ FrameEnd U o U' L ({ frames := 0, cells := 0, slots := 0, locals := 0 } : Room).cells ({ frames := 0, cells := 0, slots := 0, locals := 0 } : Room).slots) := by
  refine MetFree.of_bodySF (plainFor_of_name pn_0) hisR ?_
  intro p e s m args below meth c s₁ Bd hml0 hP hK
  obtain ⟨rfl, hZ, hh⟩ := hP
  have hx := Bd.exec
  have hby := Bd.bytes
  have hml : c.maxLocals = 1 := hml0
  have hown : s.vm.findClass "com/example/seqlint/seqlint/kafka/Transaction" = some m.cls := findClass_of_methodNamed Bd.named
  have hnm := (name_of_methodNamed Bd.named Bd.method).1
  have X0 : Stand p l e ({ frames := 0, cells := 0, slots := 0, locals := 0 } : Room) s m #[(.ref a1)] below meth c s₁ [] 0 0 := Stand.of_body Bd
  have e0 : s₁.heap = h0 := by rw [← hh, Bd.state]; rfl
  have N0 := Fr.nil n0
  show Goes p e below s (Q_rm10 Z a1 w h0 n0) ({ frames := 0, cells := 0, slots := 0, locals := 0 } : Room).cells ({ frames := 0, cells := 0, slots := 0, locals := 0 } : Room).slots (s₁.setTop (entryFrame m #[(.ref a1)] 1))
  refine Goes.pre (fun t kt => castTop (ef_rm10 m a1) kt) ?_
  show Goes p e below s _ _ _ (s₁.setTop (mkF m 0 #[.val (.ref a1)] []))
  refine Goes.pre (fun t kt => XS.aloadN X0.here hx rfl (hb hby d10_0) rfl rfl kt) ?_
  show Goes p e below s _ _ _ (s₁.setTop (mkF m 1 #[.val (.ref a1)] [(.ref a1)]))
  obtain ⟨T1, X1, e1, st1⟩ := getF X0 hx hZ hown (host := "") (Or.inl (hw _ (List.mem_of_getElem? (i := 38) rfl))) Via.refl e0 pf_F_a1_com_example_seqlint_seqlint_kafka_Transaction_epoch (g := (mkF m 1 #[.val (.ref a1)] [(.ref a1)])) rfl rfl (hb hby d10_1)
  refine Goes.pre st1 ?_
  show Goes p e below s _ _ _ (T1.setTop (mkF m 4 #[.val (.ref a1)] [(.int w)]))
  refine Goes.pre (fun t kt => XS.i2s X1.here hx rfl (hb hby d10_4) rfl kt) ?_
  show Goes p e below s _ _ _ (T1.setTop (mkF m 5 #[.val (.ref a1)] [(.int (w.toInt16.toInt32))]))
  refine Goes.ret X1 (some (.int (nar .short (w.toInt16.toInt32)))) (fun h => by rw [Bd.returns] at h; cases h) (BodyLoose.notSynchronized Bd) (by decide) (by decide) (fun fs hr => retN X1 hx (t := .short) Bd.returns (by simp) (hb hby d10_5) hr) ?_
  show Q_rm10 Z a1 w h0 n0 _ T1.heap _
  rw [e1]
  exact ⟨rfl, N0, rfl⟩
theorem d11_0 : decode prog_63_method_6_code 0 = .ok (.aload_n 0, 1) := by decide +kernel
theorem d11_1 : decode prog_63_method_6_code 1 = .ok (.getfield 12, 3) := by decide +kernel
theorem d11_4 : decode prog_63_method_6_code 4 = .ok (.ldc 11, 2) := by decide +kernel
theorem d11_6 : decode prog_63_method_6_code 6 = .ok (.if_icmp .eq 7, 3) := by decide +kernel
theorem d11_9 : decode prog_63_method_6_code 9 = .ok (.iconst 1, 1) := by decide +kernel
theorem d11_10 : decode prog_63_method_6_code 10 = .ok (.goto 4, 3) := by decide +kernel
theorem d11_14 : decode prog_63_method_6_code 14 = .ok (.ireturn, 1) := by decide +kernel
def Q_rm11 (Z : State) (a1 : Addr) (w : Int32) (h0 : Heap) (n0 : Nat) (v : Option Value) (h : Heap) (L : List Loc) : Prop := v = some (.int (1 : Int32)) ∧ Fr n0 L ∧ h = h0
theorem ef_rm11 (m : MethodId) (a1 : Addr) : entryFrame m #[(.ref a1)] 1 = mkF m 0 #[.val (.ref a1)] [] := by first | (simp [entryFrame, mkF, argsToLocals, Value.category]; done) | rfl
set_option maxRecDepth 65536 in
set_option maxHeartbeats 40000000 in
theorem rm11 (l : Launch) (Z : State) (a0 : Array Value) (hw : ∀ d ∈ tables_1, d.before a0 Z = true) (ws : List Jvm.Cond) (a1 : Addr) (w : Int32) (h0 : Heap) (n0 : Nat) (Z0 : n0 ≤ h0.size) (pf_F_a1_com_example_seqlint_seqlint_kafka_Transaction_epoch : Fld Z h0 a1 "com/example/seqlint/seqlint/kafka/Transaction" "epoch" "I" (.int w)) (hw1 : ¬ w = (-2147483648 : Int32)) :
    MetFree l (⟨"com/example/seqlint/seqlint/kafka/Transaction", "hasEpoch", "()Z"⟩ : MethodName) (head1 (Jvm.Cond.code (⟨"com/example/seqlint/seqlint/kafka/Transaction", "hasEpoch", "()Z"⟩ : MethodName) prog_63_method_6_code 1 (some .boolean) :: ws) ({ frames := 0, cells := 0, slots := 0, locals := 0 } : Room)) (fun a U => a = #[(.ref a1)] ∧ Z.Warmed39 U.vm ∧ U.heap = h0) (fun _ _ _ _ _ => True) (fun _ U o U' => ∃ v L, o = .returned v ∧ Q_rm11 Z a1 w h0 n0 v U'.heap L ∧ FrameEnd U o U' L ({ frames := 0, cells := 0, slots := 0, locals := 0 } : Room).cells ({ frames := 0, cells := 0, slots := 0, locals := 0 } : Room).slots) := by
  refine MetFree.of_bodySF (plainFor_of_name pn_0) hisR ?_
  intro p e s m args below meth c s₁ Bd hml0 hP hK
  obtain ⟨rfl, hZ, hh⟩ := hP
  have hx := Bd.exec
  have hby := Bd.bytes
  have hml : c.maxLocals = 1 := hml0
  have hown : s.vm.findClass "com/example/seqlint/seqlint/kafka/Transaction" = some m.cls := findClass_of_methodNamed Bd.named
  have hnm := (name_of_methodNamed Bd.named Bd.method).1
  have X0 : Stand p l e ({ frames := 0, cells := 0, slots := 0, locals := 0 } : Room) s m #[(.ref a1)] below meth c s₁ [] 0 0 := Stand.of_body Bd
  have e0 : s₁.heap = h0 := by rw [← hh, Bd.state]; rfl
  have N0 := Fr.nil n0
  show Goes p e below s (Q_rm11 Z a1 w h0 n0) ({ frames := 0, cells := 0, slots := 0, locals := 0 } : Room).cells ({ frames := 0, cells := 0, slots := 0, locals := 0 } : Room).slots (s₁.setTop (entryFrame m #[(.ref a1)] 1))
  refine Goes.pre (fun t kt => castTop (ef_rm11 m a1) kt) ?_
  show Goes p e below s _ _ _ (s₁.setTop (mkF m 0 #[.val (.ref a1)] []))
  refine Goes.pre (fun t kt => XS.aloadN X0.here hx rfl (hb hby d11_0) rfl rfl kt) ?_
  show Goes p e below s _ _ _ (s₁.setTop (mkF m 1 #[.val (.ref a1)] [(.ref a1)]))
  obtain ⟨T1, X1, e1, st1⟩ := getF X0 hx hZ hown (host := "") (Or.inl (hw _ (List.mem_of_getElem? (i := 38) rfl))) Via.refl e0 pf_F_a1_com_example_seqlint_seqlint_kafka_Transaction_epoch (g := (mkF m 1 #[.val (.ref a1)] [(.ref a1)])) rfl rfl (hb hby d11_1)
  refine Goes.pre st1 ?_
  show Goes p e below s _ _ _ (T1.setTop (mkF m 4 #[.val (.ref a1)] [(.int w)]))
  refine Goes.pre (X1.ldcInt hx hown (mvT hZ (hw _ (List.mem_of_getElem? (i := 37) rfl))) (g := (mkF m 4 #[.val (.ref a1)] [(.int w)])) rfl (hb hby d11_4)) ?_
  show Goes p e below s _ _ _ (T1.setTop (mkF m 6 #[.val (.ref a1)] [(.int (-2147483648 : Int32)), (.int w)]))
  refine Goes.pre (fun t kt => XS.icmpNo X1.here hx rfl (hb hby d11_6) rfl (Jvm.Free.XT.ii_eq_f (hw1)) kt) ?_
  show Goes p e below s _ _ _ (T1.setTop (mkF m 9 #[.val (.ref a1)] []))
  refine Goes.pre (fun t kt => XS.iconst X1.here hx rfl (hb hby d11_9) kt) ?_
  show Goes p e below s _ _ _ (T1.setTop (mkF m 10 #[.val (.ref a1)] [(.int (1 : Int32))]))
  refine Goes.pre (fun t kt => XS.goto X1.here hx rfl (pc0 := 10) (pc' := 14) rfl (hb hby d11_10) (by decide) (by decide) kt) ?_
  show Goes p e below s _ _ _ (T1.setTop (mkF m 14 #[.val (.ref a1)] [(.int (1 : Int32))]))
  refine Goes.ret X1 (some (.int (1 : Int32))) (fun h => by rw [Bd.returns] at h; cases h) (BodyLoose.notSynchronized Bd) (by decide) (by decide) (fun fs hr => retN X1 hx (t := .boolean) Bd.returns (by simp) (hb hby d11_14) hr) ?_
  show Q_rm11 Z a1 w h0 n0 _ T1.heap _
  rw [e1]
  exact ⟨rfl, N0, rfl⟩
theorem d12_0 : decode prog_63_method_7_code 0 = .ok (.aload_n 0, 1) := by decide +kernel
theorem d12_1 : decode prog_63_method_7_code 1 = .ok (.getfield 31, 3) := by decide +kernel
theorem d12_4 : decode prog_63_method_7_code 4 = .ok (.lreturn, 1) := by decide +kernel
def Q_rm12 (Z : State) (a1 : Addr) (w : Int64) (h0 : Heap) (n0 : Nat) (v : Option Value) (h : Heap) (L : List Loc) : Prop := v = some (.long w) ∧ Fr n0 L ∧ h = h0
theorem ef_rm12 (m : MethodId) (a1 : Addr) : entryFrame m #[(.ref a1)] 1 = mkF m 0 #[.val (.ref a1)] [] := by first | (simp [entryFrame, mkF, argsToLocals, Value.category]; done) | rfl
set_option maxRecDepth 65536 in
set_option maxHeartbeats 40000000 in
theorem rm12 (l : Launch) (Z : State) (a0 : Array Value) (hw : ∀ d ∈ tables_1, d.before a0 Z = true) (ws : List Jvm.Cond) (a1 : Addr) (w : Int64) (h0 : Heap) (n0 : Nat) (Z0 : n0 ≤ h0.size) (pf_F_a1_com_example_seqlint_seqlint_kafka_Transaction_firstOffset : Fld Z h0 a1 "com/example/seqlint/seqlint/kafka/Transaction" "firstOffset" "J" (.long w)) :
    MetFree l (⟨"com/example/seqlint/seqlint/kafka/Transaction", "firstOffset", "()J"⟩ : MethodName) (head1 (Jvm.Cond.code (⟨"com/example/seqlint/seqlint/kafka/Transaction", "firstOffset", "()J"⟩ : MethodName) prog_63_method_7_code 1 (some .long) :: ws) ({ frames := 0, cells := 0, slots := 0, locals := 0 } : Room)) (fun a U => a = #[(.ref a1)] ∧ Z.Warmed39 U.vm ∧ U.heap = h0) (fun _ _ _ _ _ => True) (fun _ U o U' => ∃ v L, o = .returned v ∧ Q_rm12 Z a1 w h0 n0 v U'.heap L ∧ FrameEnd U o U' L ({ frames := 0, cells := 0, slots := 0, locals := 0 } : Room).cells ({ frames := 0, cells := 0, slots := 0, locals := 0 } : Room).slots) := by
  refine MetFree.of_bodySF (plainFor_of_name pn_0) hisR ?_
  intro p e s m args below meth c s₁ Bd hml0 hP hK
  obtain ⟨rfl, hZ, hh⟩ := hP
  have hx := Bd.exec
  have hby := Bd.bytes
  have hml : c.maxLocals = 1 := hml0
  have hown : s.vm.findClass "com/example/seqlint/seqlint/kafka/Transaction" = some m.cls := findClass_of_methodNamed Bd.named
  have hnm := (name_of_methodNamed Bd.named Bd.method).1
  have X0 : Stand p l e ({ frames := 0, cells := 0, slots := 0, locals := 0 } : Room) s m #[(.ref a1)] below meth c s₁ [] 0 0 := Stand.of_body Bd
  have e0 : s₁.heap = h0 := by rw [← hh, Bd.state]; rfl
  have N0 := Fr.nil n0
  show Goes p e below s (Q_rm12 Z a1 w h0 n0) ({ frames := 0, cells := 0, slots := 0, locals := 0 } : Room).cells ({ frames := 0, cells := 0, slots := 0, locals := 0 } : Room).slots (s₁.setTop (entryFrame m #[(.ref a1)] 1))
  refine Goes.pre (fun t kt => castTop (ef_rm12 m a1) kt) ?_
  show Goes p e below s _ _ _ (s₁.setTop (mkF m 0 #[.val (.ref a1)] []))
  refine Goes.pre (fun t kt => XS.aloadN X0.here hx rfl (hb hby d12_0) rfl rfl kt) ?_
  show Goes p e below s _ _ _ (s₁.setTop (mkF m 1 #[.val (.ref a1)] [(.ref a1)]))
  obtain ⟨T1, X1, e1, st1⟩ := getF X0 hx hZ hown (host := "") (Or.inl (hw _ (List.mem_of_getElem? (i := 52) rfl))) Via.refl e0 pf_F_a1_com_example_seqlint_seqlint_kafka_Transaction_firstOffset (g := (mkF m 1 #[.val (.ref a1)] [(.ref a1)])) rfl rfl (hb hby d12_1)
  refine Goes.pre st1 ?_
  show Goes p e below s _ _ _ (T1.setTop (mkF m 4 #[.val (.ref a1)] [(.long w)]))
  refine Goes.ret X1 (some (.long w)) (fun h => by rw [Bd.returns] at h; cases h) (BodyLoose.notSynchronized Bd) (by decide) (by decide) (fun fs hr => retOut X1 hx (t := .long) Bd.returns rfl (Or.inr (Or.inl ⟨rfl, rfl, _, rfl⟩)) (hb hby d12_4) hr) ?_
  show Q_rm12 Z a1 w h0 n0 _ T1.heap _
  rw [e1]
  exact ⟨rfl, N0, rfl⟩
theorem d13_0 : decode prog_63_method_8_code 0 = .ok (.aload_n 0, 1) := by decide +kernel
theorem d13_1 : decode prog_63_method_8_code 1 = .ok (.getfield 34, 3) := by decide +kernel
theorem d13_4 : decode prog_63_method_8_code 4 = .ok (.lreturn, 1) := by decide +kernel
def Q_rm13 (Z : State) (a1 : Addr) (w : Int64) (h0 : Heap) (n0 : Nat) (v : Option Value) (h : Heap) (L : List Loc) : Prop := v = some (.long w) ∧ Fr n0 L ∧ h = h0
theorem ef_rm13 (m : MethodId) (a1 : Addr) : entryFrame m #[(.ref a1)] 1 = mkF m 0 #[.val (.ref a1)] [] := by first | (simp [entryFrame, mkF, argsToLocals, Value.category]; done) | rfl
set_option maxRecDepth 65536 in
set_option maxHeartbeats 40000000 in
theorem rm13 (l : Launch) (Z : State) (a0 : Array Value) (hw : ∀ d ∈ tables_1, d.before a0 Z = true) (ws : List Jvm.Cond) (a1 : Addr) (w : Int64) (h0 : Heap) (n0 : Nat) (Z0 : n0 ≤ h0.size) (pf_F_a1_com_example_seqlint_seqlint_kafka_Transaction_position : Fld Z h0 a1 "com/example/seqlint/seqlint/kafka/Transaction" "position" "J" (.long w)) :
    MetFree l (⟨"com/example/seqlint/seqlint/kafka/Transaction", "position", "()J"⟩ : MethodName) (head1 (Jvm.Cond.code (⟨"com/example/seqlint/seqlint/kafka/Transaction", "position", "()J"⟩ : MethodName) prog_63_method_8_code 1 (some .long) :: ws) ({ frames := 0, cells := 0, slots := 0, locals := 0 } : Room)) (fun a U => a = #[(.ref a1)] ∧ Z.Warmed39 U.vm ∧ U.heap = h0) (fun _ _ _ _ _ => True) (fun _ U o U' => ∃ v L, o = .returned v ∧ Q_rm13 Z a1 w h0 n0 v U'.heap L ∧ FrameEnd U o U' L ({ frames := 0, cells := 0, slots := 0, locals := 0 } : Room).cells ({ frames := 0, cells := 0, slots := 0, locals := 0 } : Room).slots) := by
  refine MetFree.of_bodySF (plainFor_of_name pn_0) hisR ?_
  intro p e s m args below meth c s₁ Bd hml0 hP hK
  obtain ⟨rfl, hZ, hh⟩ := hP
  have hx := Bd.exec
  have hby := Bd.bytes
  have hml : c.maxLocals = 1 := hml0
  have hown : s.vm.findClass "com/example/seqlint/seqlint/kafka/Transaction" = some m.cls := findClass_of_methodNamed Bd.named
  have hnm := (name_of_methodNamed Bd.named Bd.method).1
  have X0 : Stand p l e ({ frames := 0, cells := 0, slots := 0, locals := 0 } : Room) s m #[(.ref a1)] below meth c s₁ [] 0 0 := Stand.of_body Bd
  have e0 : s₁.heap = h0 := by rw [← hh, Bd.state]; rfl
  have N0 := Fr.nil n0
  show Goes p e below s (Q_rm13 Z a1 w h0 n0) ({ frames := 0, cells := 0, slots := 0, locals := 0 } : Room).cells ({ frames := 0, cells := 0, slots := 0, locals := 0 } : Room).slots (s₁.setTop (entryFrame m #[(.ref a1)] 1))
  refine Goes.pre (fun t kt => castTop (ef_rm13 m a1) kt) ?_
  show Goes p e below s _ _ _ (s₁.setTop (mkF m 0 #[.val (.ref a1)] []))
  refine Goes.pre (fun t kt => XS.aloadN X0.here hx rfl (hb hby d13_0) rfl rfl kt) ?_
  show Goes p e below s _ _ _ (s₁.setTop (mkF m 1 #[.val (.ref a1)] [(.ref a1)]))
  obtain ⟨T1, X1, e1, st1⟩ := getF X0 hx hZ hown (host := "") (Or.inl (hw _ (List.mem_of_getElem? (i := 54) rfl))) Via.refl e0 pf_F_a1_com_example_seqlint_seqlint_kafka_Transaction_position (g := (mkF m 1 #[.val (.ref a1)] [(.ref a1)])) rfl rfl (hb hby d13_1)
  refine Goes.pre st1 ?_
  show Goes p e below s _ _ _ (T1.setTop (mkF m 4 #[.val (.ref a1)] [(.long w)]))
  refine Goes.ret X1 (some (.long w)) (fun h => by rw [Bd.returns] at h; cases h) (BodyLoose.notSynchronized Bd) (by decide) (by decide) (fun fs hr => retOut X1 hx (t := .long) Bd.returns rfl (Or.inr (Or.inl ⟨rfl, rfl, _, rfl⟩)) (hb hby d13_4) hr) ?_
  show Q_rm13 Z a1 w h0 n0 _ T1.heap _
  rw [e1]
  exact ⟨rfl, N0, rfl⟩
theorem d15_0 : decode prog_63_method_10_code 0 = .ok (.aload_n 0, 1) := by decide +kernel
theorem d15_1 : decode prog_63_method_10_code 1 = .ok (.getfield 41, 3) := by decide +kernel
theorem d15_4 : decode prog_63_method_10_code 4 = .ok (.lreturn, 1) := by decide +kernel
def Q_rm15 (Z : State) (a1 : Addr) (w : Int64) (h0 : Heap) (n0 : Nat) (v : Option Value) (h : Heap) (L : List Loc) : Prop := v = some (.long w) ∧ Fr n0 L ∧ h = h0
theorem ef_rm15 (m : MethodId) (a1 : Addr) : entryFrame m #[(.ref a1)] 1 = mkF m 0 #[.val (.ref a1)] [] := by first | (simp [entryFrame, mkF, argsToLocals, Value.category]; done) | rfl
set_option maxRecDepth 65536 in
set_option maxHeartbeats 40000000 in
theorem rm15 (l : Launch) (Z : State) (a0 : Array Value) (hw : ∀ d ∈ tables_1, d.before a0 Z = true) (ws : List Jvm.Cond) (a1 : Addr) (w : Int64) (h0 : Heap) (n0 : Nat) (Z0 : n0 ≤ h0.size) (pf_F_a1_com_example_seqlint_seqlint_kafka_Transaction_firstTimestamp : Fld Z h0 a1 "com/example/seqlint/seqlint/kafka/Transaction" "firstTimestamp" "J" (.long w)) :
    MetFree l (⟨"com/example/seqlint/seqlint/kafka/Transaction", "firstTimestamp", "()J"⟩ : MethodName) (head1 (Jvm.Cond.code (⟨"com/example/seqlint/seqlint/kafka/Transaction", "firstTimestamp", "()J"⟩ : MethodName) prog_63_method_10_code 1 (some .long) :: ws) ({ frames := 0, cells := 0, slots := 0, locals := 0 } : Room)) (fun a U => a = #[(.ref a1)] ∧ Z.Warmed39 U.vm ∧ U.heap = h0) (fun _ _ _ _ _ => True) (fun _ U o U' => ∃ v L, o = .returned v ∧ Q_rm15 Z a1 w h0 n0 v U'.heap L ∧ FrameEnd U o U' L ({ frames := 0, cells := 0, slots := 0, locals := 0 } : Room).cells ({ frames := 0, cells := 0, slots := 0, locals := 0 } : Room).slots) := by
  refine MetFree.of_bodySF (plainFor_of_name pn_0) hisR ?_
  intro p e s m args below meth c s₁ Bd hml0 hP hK
  obtain ⟨rfl, hZ, hh⟩ := hP
  have hx := Bd.exec
  have hby := Bd.bytes
  have hml : c.maxLocals = 1 := hml0
  have hown : s.vm.findClass "com/example/seqlint/seqlint/kafka/Transaction" = some m.cls := findClass_of_methodNamed Bd.named
  have hnm := (name_of_methodNamed Bd.named Bd.method).1
  have X0 : Stand p l e ({ frames := 0, cells := 0, slots := 0, locals := 0 } : Room) s m #[(.ref a1)] below meth c s₁ [] 0 0 := Stand.of_body Bd
  have e0 : s₁.heap = h0 := by rw [← hh, Bd.state]; rfl
  have N0 := Fr.nil n0
  show Goes p e below s (Q_rm15 Z a1 w h0 n0) ({ frames := 0, cells := 0, slots := 0, locals := 0 } : Room).cells ({ frames := 0, cells := 0, slots := 0, locals := 0 } : Room).slots (s₁.setTop (entryFrame m #[(.ref a1)] 1))
  refine Goes.pre (fun t kt => castTop (ef_rm15 m a1) kt) ?_
  show Goes p e below s _ _ _ (s₁.setTop (mkF m 0 #[.val (.ref a1)] []))
  refine Goes.pre (fun t kt => XS.aloadN X0.here hx rfl (hb hby d15_0) rfl rfl kt) ?_
  show Goes p e below s _ _ _ (s₁.setTop (mkF m 1 #[.val (.ref a1)] [(.ref a1)]))
  obtain ⟨T1, X1, e1, st1⟩ := getF X0 hx hZ hown (host := "") (Or.inl (hw _ (List.mem_of_getElem? (i := 58) rfl))) Via.refl e0 pf_F_a1_com_example_seqlint_seqlint_kafka_Transaction_firstTimestamp (g := (mkF m 1 #[.val (.ref a1)] [(.ref a1)])) rfl rfl (hb hby d15_1)
  refine Goes.pre st1 ?_
  show Goes p e below s _ _ _ (T1.setTop (mkF m 4 #[.val (.ref a1)] [(.long w)]))
  refine Goes.ret X1 (some (.long w)) (fun h => by rw [Bd.returns] at h; cases h) (BodyLoose.notSynchronized Bd) (by decide) (by decide) (fun fs hr => retOut X1 hx (t := .long) Bd.returns rfl (Or.inr (Or.inl ⟨rfl, rfl, _, rfl⟩)) (hb hby d15_4) hr) ?_
  show Q_rm15 Z a1 w h0 n0 _ T1.heap _
  rw [e1]
  exact ⟨rfl, N0, rfl⟩
theorem d14_0 : decode prog_63_method_9_code 0 = .ok (.aload_n 0, 1) := by decide +kernel
theorem d14_1 : decode prog_63_method_9_code 1 = .ok (.getfield 37, 3) := by decide +kernel
theorem d14_4 : decode prog_63_method_9_code 4 = .ok (.areturn, 1) := by decide +kernel
def Q_rm14r (Z : State) (a1 : Addr) (w : Addr) (h0 : Heap) (n0 : Nat) (v : Option Value) (h : Heap) (L : List Loc) : Prop := v = some (.ref w) ∧ Fr n0 L ∧ h = h0
theorem ef_rm14r (m : MethodId) (a1 : Addr) : entryFrame m #[(.ref a1)] 1 = mkF m 0 #[.val (.ref a1)] [] := by first | (simp [entryFrame, mkF, argsToLocals, Value.category]; done) | rfl
set_option maxRecDepth 65536 in
set_option maxHeartbeats 40000000 in
theorem rm14r (l : Launch) (Z : State) (a0 : Array Value) (hw : ∀ d ∈ tables_1, d.before a0 Z = true) (ws : List Jvm.Cond) (a1 : Addr) (w : Addr) (h0 : Heap) (n0 : Nat) (Z0 : n0 ≤ h0.size) (pf_F_a1_com_example_seqlint_seqlint_kafka_Transaction_file : Fld Z h0 a1 "com/example/seqlint/seqlint/kafka/Transaction" "file" "Ljava/lang/String;" (.ref w)) :
    MetFree l (⟨"com/example/seqlint/seqlint/kafka/Transaction", "file", "()Ljava/lang/String;"⟩ : MethodName) (head1 (Jvm.Cond.code (⟨"com/example/seqlint/seqlint/kafka/Transaction", "file", "()Ljava/lang/String;"⟩ : MethodName) prog_63_method_9_code 1 (some (.object "java/lang/String")) :: ws) ({ frames := 0, cells := 0, slots := 0, locals := 0 } : Room)) (fun a U => a = #[(.ref a1)] ∧ Z.Warmed39 U.vm ∧ U.heap = h0) (fun _ _ _ _ _ => True) (fun _ U o U' => ∃ v L, o = .returned v ∧ Q_rm14r Z a1 w h0 n0 v U'.heap L ∧ FrameEnd U o U' L ({ frames := 0, cells := 0, slots := 0, locals := 0 } : Room).cells ({ frames := 0, cells := 0, slots := 0, locals := 0 } : Room).slots) := by
  refine MetFree.of_bodySF (plainFor_of_name pn_0) hisR ?_
  intro p e s m args below meth c s₁ Bd hml0 hP hK
  obtain ⟨rfl, hZ, hh⟩ := hP
  have hx := Bd.exec
  have hby := Bd.bytes
  have hml : c.maxLocals = 1 := hml0
  have hown : s.vm.findClass "com/example/seqlint/seqlint/kafka/Transaction" = some m.cls := findClass_of_methodNamed Bd.named
  have hnm := (name_of_methodNamed Bd.named Bd.method).1
  have X0 : Stand p l e ({ frames := 0, cells := 0, slots := 0, locals := 0 } : Room) s m #[(.ref a1)] below meth c s₁ [] 0 0 := Stand.of_body Bd
  have e0 : s₁.heap = h0 := by rw [← hh, Bd.state]; rfl
  have N0 := Fr.nil n0
  show Goes p e below s (Q_rm14r Z a1 w h0 n0) ({ frames := 0, cells := 0, slots := 0, locals := 0 } : Room).cells ({ frames := 0, cells := 0, slots := 0, locals := 0 } : Room).slots (s₁.setTop (entryFrame m #[(.ref a1)] 1))
  refine Goes.pre (fun t kt => castTop (ef_rm14r m a1) kt) ?_
  show Goes p e below s _ _ _ (s₁.setTop (mkF m 0 #[.val (.ref a1)] []))
  refine Goes.pre (fun t kt => XS.aloadN X0.here hx rfl (hb hby d14_0) rfl rfl kt) ?_
  show Goes p e below s _ _ _ (s₁.setTop (mkF m 1 #[.val (.ref a1)] [(.ref a1)]))
  obtain ⟨T1, X1, e1, st1⟩ := getF X0 hx hZ hown (host := "") (Or.inl (hw _ (List.mem_of_getElem? (i := 56) rfl))) Via.refl e0 pf_F_a1_com_example_seqlint_seqlint_kafka_Transaction_file (g := (mkF m 1 #[.val (.ref a1)] [(.ref a1)])) rfl rfl (hb hby d14_1)
  refine Goes.pre st1 ?_
  show Goes p e below s _ _ _ (T1.setTop (mkF m 4 #[.val (.ref a1)] [(.ref w)]))
  refine Goes.ret X1 (some (.ref w)) (fun h => by rw [Bd.returns] at h; cases h) (BodyLoose.notSynchronized Bd) (by decide) (by decide) (fun fs hr => retOut X1 hx (t := (.object "java/lang/String")) Bd.returns rfl (Or.inr (Or.inr (Or.inr (Or.inr ⟨rfl, rfl, rfl⟩)))) (hb hby d14_4) hr) ?_
  show Q_rm14r Z a1 w h0 n0 _ T1.heap _
  rw [e1]
  exact ⟨rfl, N0, rfl⟩
def Q_rm14n (Z : State) (a1 : Addr) (h0 : Heap) (n0 : Nat) (v : Option Value) (h : Heap) (L : List Loc) : Prop := v = some .null ∧ Fr n0 L ∧ h = h0
theorem ef_rm14n (m : MethodId) (a1 : Addr) : entryFrame m #[(.ref a1)] 1 = mkF m 0 #[.val (.ref a1)] [] := by first | (simp [entryFrame, mkF, argsToLocals, Value.category]; done) | rfl
set_option maxRecDepth 65536 in
set_option maxHeartbeats 40000000 in
theorem rm14n (l : Launch) (Z : State) (a0 : Array Value) (hw : ∀ d ∈ tables_1, d.before a0 Z = true) (ws : List Jvm.Cond) (a1 : Addr) (h0 : Heap) (n0 : Nat) (Z0 : n0 ≤ h0.size) (pf_F_a1_com_example_seqlint_seqlint_kafka_Transaction_file : Fld Z h0 a1 "com/example/seqlint/seqlint/kafka/Transaction" "file" "Ljava/lang/String;" .null) :
    MetFree l (⟨"com/example/seqlint/seqlint/kafka/Transaction", "file", "()Ljava/lang/String;"⟩ : MethodName) (head1 (Jvm.Cond.code (⟨"com/example/seqlint/seqlint/kafka/Transaction", "file", "()Ljava/lang/String;"⟩ : MethodName) prog_63_method_9_code 1 (some (.object "java/lang/String")) :: ws) ({ frames := 0, cells := 0, slots := 0, locals := 0 } : Room)) (fun a U => a = #[(.ref a1)] ∧ Z.Warmed39 U.vm ∧ U.heap = h0) (fun _ _ _ _ _ => True) (fun _ U o U' => ∃ v L, o = .returned v ∧ Q_rm14n Z a1 h0 n0 v U'.heap L ∧ FrameEnd U o U' L ({ frames := 0, cells := 0, slots := 0, locals := 0 } : Room).cells ({ frames := 0, cells := 0, slots := 0, locals := 0 } : Room).slots) := by
  refine MetFree.of_bodySF (plainFor_of_name pn_0) hisR ?_
  intro p e s m args below meth c s₁ Bd hml0 hP hK
  obtain ⟨rfl, hZ, hh⟩ := hP
  have hx := Bd.exec
  have hby := Bd.bytes
  have hml : c.maxLocals = 1 := hml0
  have hown : s.vm.findClass "com/example/seqlint/seqlint/kafka/Transaction" = some m.cls := findClass_of_methodNamed Bd.named
  have hnm := (name_of_methodNamed Bd.named Bd.method).1
  have X0 : Stand p l e ({ frames := 0, cells := 0, slots := 0, locals := 0 } : Room) s m #[(.ref a1)] below meth c s₁ [] 0 0 := Stand.of_body Bd
  have e0 : s₁.heap = h0 := by rw [← hh, Bd.state]; rfl
  have N0 := Fr.nil n0
  show Goes p e below s (Q_rm14n Z a1 h0 n0) ({ frames := 0, cells := 0, slots := 0, locals := 0 } : Room).cells ({ frames := 0, cells := 0, slots := 0, locals := 0 } : Room).slots (s₁.setTop (entryFrame m #[(.ref a1)] 1))
  refine Goes.pre (fun t kt => castTop (ef_rm14n m a1) kt) ?_
  show Goes p e below s _ _ _ (s₁.setTop (mkF m 0 #[.val (.ref a1)] []))
  refine Goes.pre (fun t kt => XS.aloadN X0.here hx rfl (hb hby d14_0) rfl rfl kt) ?_
  show Goes p e below s _ _ _ (s₁.setTop (mkF m 1 #[.val (.ref a1)] [(.ref a1)]))
  obtain ⟨T1, X1, e1, st1⟩ := getF X0 hx hZ hown (host := "") (Or.inl (hw _ (List.mem_of_getElem? (i := 56) rfl))) Via.refl e0 pf_F_a1_com_example_seqlint_seqlint_kafka_Transaction_file (g := (mkF m 1 #[.val (.ref a1)] [(.ref a1)])) rfl rfl (hb hby d14_1)
  refine Goes.pre st1 ?_
  show Goes p e below s _ _ _ (T1.setTop (mkF m 4 #[.val (.ref a1)] [.null]))
  refine Goes.ret X1 (some .null) (fun h => by rw [Bd.returns] at h; cases h) (BodyLoose.notSynchronized Bd) (by decide) (by decide) (fun fs hr => retOut X1 hx (t := (.object "java/lang/String")) Bd.returns rfl (Or.inr (Or.inr (Or.inr (Or.inr ⟨rfl, rfl, rfl⟩)))) (hb hby d14_4) hr) ?_
  show Q_rm14n Z a1 h0 n0 _ T1.heap _
  rw [e1]
  exact ⟨rfl, N0, rfl⟩
theorem d16_0 : decode prog_63_method_11_code 0 = .ok (.aload_n 0, 1) := by decide +kernel
theorem d16_1 : decode prog_63_method_11_code 1 = .ok (.getfield 44, 3) := by decide +kernel
theorem d16_4 : decode prog_63_method_11_code 4 = .ok (.ireturn, 1) := by decide +kernel
def Q_rm16 (Z : State) (a1 : Addr) (w : Int32) (h0 : Heap) (n0 : Nat) (v : Option Value) (h : Heap) (L : List Loc) : Prop := v = some (.int (w &&& 1)) ∧ Fr n0 L ∧ h = h0
theorem ef_rm16 (m : MethodId) (a1 : Addr) : entryFrame m #[(.ref a1)] 1 = mkF m 0 #[.val (.ref a1)] [] := by first | (simp [entryFrame, mkF, argsToLocals, Value.category]; done) | rfl
set_option maxRecDepth 65536 in
set_option maxHeartbeats 40000000 in
theorem rm16 (l : Launch) (Z : State) (a0 : Array Value) (hw : ∀ d ∈ tables_1, d.before a0 Z = true) (ws : List Jvm.Cond) (a1 : Addr) (w : Int32) (h0 : Heap) (n0 : Nat) (Z0 : n0 ≤ h0.size) (pf_F_a1_com_example_seqlint_seqlint_kafka_Transaction_reported : Fld Z h0 a1 "com/example/seqlint/seqlint/kafka/Transaction" "reported" "Z" (.int w)) :
    MetFree l (⟨"com/example/seqlint/seqlint/kafka/Transaction", "isReported", "()Z"⟩ : MethodName) (head1 (Jvm.Cond.code (⟨"com/example/seqlint/seqlint/kafka/Transaction", "isReported", "()Z"⟩ : MethodName) prog_63_method_11_code 1 (some .boolean) :: ws) ({ frames := 0, cells := 0, slots := 0, locals := 0 } : Room)) (fun a U => a = #[(.ref a1)] ∧ Z.Warmed39 U.vm ∧ U.heap = h0) (fun _ _ _ _ _ => True) (fun _ U o U' => ∃ v L, o = .returned v ∧ Q_rm16 Z a1 w h0 n0 v U'.heap L ∧ FrameEnd U o U' L ({ frames := 0, cells := 0, slots := 0, locals := 0 } : Room).cells ({ frames := 0, cells := 0, slots := 0, locals := 0 } : Room).slots) := by
  refine MetFree.of_bodySF (plainFor_of_name pn_0) hisR ?_
  intro p e s m args below meth c s₁ Bd hml0 hP hK
  obtain ⟨rfl, hZ, hh⟩ := hP
  have hx := Bd.exec
  have hby := Bd.bytes
  have hml : c.maxLocals = 1 := hml0
  have hown : s.vm.findClass "com/example/seqlint/seqlint/kafka/Transaction" = some m.cls := findClass_of_methodNamed Bd.named
  have hnm := (name_of_methodNamed Bd.named Bd.method).1
  have X0 : Stand p l e ({ frames := 0, cells := 0, slots := 0, locals := 0 } : Room) s m #[(.ref a1)] below meth c s₁ [] 0 0 := Stand.of_body Bd
  have e0 : s₁.heap = h0 := by rw [← hh, Bd.state]; rfl
  have N0 := Fr.nil n0
  show Goes p e below s (Q_rm16 Z a1 w h0 n0) ({ frames := 0, cells := 0, slots := 0, locals := 0 } : Room).cells ({ frames := 0, cells := 0, slots := 0, locals := 0 } : Room).slots (s₁.setTop (entryFrame m #[(.ref a1)] 1))
  refine Goes.pre (fun t kt => castTop (ef_rm16 m a1) kt) ?_
  show Goes p e below s _ _ _ (s₁.setTop (mkF m 0 #[.val (.ref a1)] []))
  refine Goes.pre (fun t kt => XS.aloadN X0.here hx rfl (hb hby d16_0) rfl rfl kt) ?_
  show Goes p e below s _ _ _ (s₁.setTop (mkF m 1 #[.val (.ref a1)] [(.ref a1)]))
  obtain ⟨T1, X1, e1, st1⟩ := getF X0 hx hZ hown (host := "") (Or.inl (hw _ (List.mem_of_getElem? (i := 60) rfl))) Via.refl e0 pf_F_a1_com_example_seqlint_seqlint_kafka_Transaction_reported (g := (mkF m 1 #[.val (.ref a1)] [(.ref a1)])) rfl rfl (hb hby d16_1)
  refine Goes.pre st1 ?_
  show Goes p e below s _ _ _ (T1.setTop (mkF m 4 #[.val (.ref a1)] [(.int w)]))
  refine Goes.ret X1 (some (.int (nar .boolean w))) (fun h => by rw [Bd.returns] at h; cases h) (BodyLoose.notSynchronized Bd) (by decide) (by decide) (fun fs hr => retN X1 hx (t := .boolean) Bd.returns (by simp) (hb hby d16_4) hr) ?_
  show Q_rm16 Z a1 w h0 n0 _ T1.heap _
  rw [e1]
  exact ⟨rfl, N0, rfl⟩
theorem pd_1 : parseMethodDescriptor "([C)V" = some ⟨[(.array .char)], none⟩ := by decide +kernel
theorem pd_2 : parseMethodDescriptor "(J)V" = some ⟨[.long], none⟩ := by decide +kernel
theorem pd_3 : parseMethodDescriptor "(SJJLjava/lang/String;JZ)V" = some ⟨[.short, .long, .long, (.object "java/lang/String"), .long, .boolean], none⟩ := by decide +kernel
theorem pd_4 : parseMethodDescriptor "()Z" = some ⟨[], some .boolean⟩ := by decide +kernel
theorem pd_5 : parseMethodDescriptor "()S" = some ⟨[], some .short⟩ := by decide +kernel
theorem pd_6 : parseMethodDescriptor "()J" = some ⟨[], some .long⟩ := by decide +kernel
theorem pd_7 : parseMethodDescriptor "()Ljava/lang/String;" = some ⟨[], some (.object "java/lang/String")⟩ := by decide +kernel
theorem pn_8 : plainName "com/example/seqlint/seqlint/kafka/TransactionOpenPinLaw" = true := by first | (simp [plainName, overriddenIn]; done) | decide +kernel
def Q_rm0 (Z : State) (q1 : Int64) (p2 : Int32) (q3 : Int64) (q4 : Int64) (q5 : Int64) (p6 : Int32) (G1 : Int32) (h0 : Heap) (n0 : Nat) (v : Option Value) (h : Heap) (L : List Loc) : Prop := v = some (.int (1 : Int32)) ∧ Fr n0 L
theorem ef_rm0 (m : MethodId) (q1 : Int64) (p2 : Int32) (q3 : Int64) (q4 : Int64) (q5 : Int64) (p6 : Int32) : entryFrame m #[(.long q1), (.int p2), (.long q3), (.long q4), (.long q5), (.int p6)] maxLocals = mkF m 0 #[.val (.long q1), .second, .val (.int p2), .val (.long q3), .second, .val (.long q4), .second, .val (.long q5), .second, .val (.int p6), .unset, .unset, .unset, .unset, .unset, .unset, .unset, .unset, .unset] [] := by first | (simp [entryFrame, mkF, argsToLocals, Value.category, maxLocals]; done) | rfl
set_option maxRecDepth 65536 in
set_option maxHeartbeats 40000000 in
theorem rm0 (l : Launch) (Z : State) (a0 : Array Value) (hw : ∀ d ∈ tables_1, d.before a0 Z = true) (ws : List Jvm.Cond) (q1 : Int64) (p2 : Int32) (q3 : Int64) (q4 : Int64) (q5 : Int64) (p6 : Int32) (G1 : Int32) (h0 : Heap) (n0 : Nat) (Z0 : n0 ≤ h0.size) (pf_S_java_lang_String_COMPACT_STRINGS : Sta Z Z.heap "java/lang/String" "COMPACT_STRINGS" "Z" (.int G1)) (hcs : ¬ (G1 = (0 : Int32))) (X00 : Old Z n0 h0) :
    MetFree l x (head1 (Jvm.Cond.code x code maxLocals ret :: ws) room_1) (fun a U => a = #[(.long q1), (.int p2), (.long q3), (.long q4), (.long q5), (.int p6)] ∧ Z.Warmed39 U.vm ∧ U.heap = h0) (fun _ _ _ _ _ => True) (fun _ U o U' => ∃ v L, o = .returned v ∧ Q_rm0 Z q1 p2 q3 q4 q5 p6 G1 h0 n0 v U'.heap L ∧ FrameEnd U o U' L room_1.cells room_1.slots) := by
  refine MetFree.of_bodySF (plainFor_of_name pn_8) hisR ?_
  intro p e s m args below meth c s₁ Bd hml0 hP hK
  obtain ⟨rfl, hZ, hh⟩ := hP
  have hx := Bd.exec
  have hby := Bd.bytes
  have hml : c.maxLocals = 19 := hml0
  have hown : s.vm.findClass "com/example/seqlint/seqlint/kafka/TransactionOpenPinLaw" = some m.cls := findClass_of_methodNamed Bd.named
  have hnm := (name_of_methodNamed Bd.named Bd.method).1
  have X0 : Stand p l e room_1 s m #[(.long q1), (.int p2), (.long q3), (.long q4), (.long q5), (.int p6)] below meth c s₁ [] 0 0 := Stand.of_body Bd
  have e0 : s₁.heap = h0 := by rw [← hh, Bd.state]; rfl
  have N0 := Fr.nil n0
  show Goes p e below s (Q_rm0 Z q1 p2 q3 q4 q5 p6 G1 h0 n0) room_1.cells room_1.slots (s₁.setTop (entryFrame m #[(.long q1), (.int p2), (.long q3), (.long q4), (.long q5), (.int p6)] maxLocals))
  refine Goes.pre (fun t kt => castTop (ef_rm0 m q1 p2 q3 q4 q5 p6) kt) ?_
  show Goes p e below s _ _ _ (s₁.setTop (mkF m 0 #[.val (.long q1), .second, .val (.int p2), .val (.long q3), .second, .val (.long q4), .second, .val (.long q5), .second, .val (.int p6), .unset, .unset, .unset, .unset, .unset, .unset, .unset, .unset, .unset] []))
  refine Goes.pre (fun t kt => XS.iloadN X0.here hx rfl (hb hby at_0) rfl kt) ?_
  show Goes p e below s _ _ _ (s₁.setTop (mkF m 1 #[.val (.long q1), .second, .val (.int p2), .val (.long q3), .second, .val (.long q4), .second, .val (.long q5), .second, .val (.int p6), .unset, .unset, .unset, .unset, .unset, .unset, .unset, .unset, .unset] [(.int p2)]))
  refine Goes.pre (fun t kt => XS.i2s X0.here hx rfl (hb hby at_1) rfl kt) ?_
  show Goes p e below s _ _ _ (s₁.setTop (mkF m 2 #[.val (.long q1), .second, .val (.int p2), .val (.long q3), .second, .val (.long q4), .second, .val (.long q5), .second, .val (.int p6), .unset, .unset, .unset, .unset, .unset, .unset, .unset, .unset, .unset] [(.int (p2.toInt16.toInt32))]))
  refine Goes.pre (fun t kt => XS.istore X0.here hx rfl (hb hby at_2) rfl (l' := #[.val (.long q1), .second, .val (.int p2), .val (.long q3), .second, .val (.long q4), .second, .val (.long q5), .second, .val (.int p6), .val (.int (p2.toInt16.toInt32)), .unset, .unset, .unset, .unset, .unset, .unset, .unset, .unset]) rfl kt) ?_
  show Goes p e below s _ _ _ (s₁.setTop (mkF m 4 #[.val (.long q1), .second, .val (.int p2), .val (.long q3), .second, .val (.long q4), .second, .val (.long q5), .second, .val (.int p6), .val (.int (p2.toInt16.toInt32)), .unset, .unset, .unset, .unset, .unset, .unset, .unset, .unset] []))
  refine Goes.pre (fun t kt => XS.iload X0.here hx rfl (hb hby at_4) rfl kt) ?_
  show Goes p e below s _ _ _ (s₁.setTop (mkF m 6 #[.val (.long q1), .second, .val (.int p2), .val (.long q3), .second, .val (.long q4), .second, .val (.long q5), .second, .val (.int p6), .val (.int (p2.toInt16.toInt32)), .unset, .unset, .unset, .unset, .unset, .unset, .unset, .unset] [(.int p6)]))
  refine Goes.pre (fun t kt => XS.iconst X0.here hx rfl (hb hby at_6) kt) ?_
  show Goes p e below s _ _ _ (s₁.setTop (mkF m 7 #[.val (.long q1), .second, .val (.int p2), .val (.long q3), .second, .val (.long q4), .second, .val (.long q5), .second, .val (.int p6), .val (.int (p2.toInt16.toInt32)), .unset, .unset, .unset, .unset, .unset, .unset, .unset, .unset] [(.int (1 : Int32)), (.int p6)]))
  refine Goes.pre (fun t kt => XS.iand X0.here hx rfl (hb hby at_7) rfl kt) ?_
  show Goes p e below s _ _ _ (s₁.setTop (mkF m 8 #[.val (.long q1), .second, .val (.int p2), .val (.long q3), .second, .val (.long q4), .second, .val (.long q5), .second, .val (.int p6), .val (.int (p2.toInt16.toInt32)), .unset, .unset, .unset, .unset, .unset, .unset, .unset, .unset] [(.int (p6 &&& (1 : Int32)))]))
  have J1 : ∀ (j1_0 : Int32), (j1_0 = 0 ∨ j1_0 = 1) → Goes p e below s (Q_rm0 Z q1 p2 q3 q4 q5 p6 G1 h0 n0) room_1.cells room_1.slots (s₁.setTop (mkF m 16 #[.val (.long q1), .second, .val (.int p2), .val (.long q3), .second, .val (.long q4), .second, .val (.long q5), .second, .val (.int p6), .val (.int (p2.toInt16.toInt32)), .unset, .unset, .unset, .unset, .unset, .unset, .unset, .unset] [(.int j1_0)])) := by
    intro j1_0 hb8
    refine Goes.pre (fun t kt => XS.istore X0.here hx rfl (hb hby at_16) rfl (l' := #[.val (.long q1), .second, .val (.int p2), .val (.long q3), .second, .val (.long q4), .second, .val (.long q5), .second, .val (.int p6), .val (.int (p2.toInt16.toInt32)), .val (.int j1_0), .unset, .unset, .unset, .unset, .unset, .unset, .unset]) rfl kt) ?_
    show Goes p e below s _ _ _ (s₁.setTop (mkF m 18 #[.val (.long q1), .second, .val (.int p2), .val (.long q3), .second, .val (.long q4), .second, .val (.long q5), .second, .val (.int p6), .val (.int (p2.toInt16.toInt32)), .val (.int j1_0), .unset, .unset, .unset, .unset, .unset, .unset, .unset] []))
    refine Goes.pre (fun t kt => XS.iload X0.here hx rfl (hb hby at_18) rfl kt) ?_
    show Goes p e below s _ _ _ (s₁.setTop (mkF m 20 #[.val (.long q1), .second, .val (.int p2), .val (.long q3), .second, .val (.long q4), .second, .val (.long q5), .second, .val (.int p6), .val (.int (p2.toInt16.toInt32)), .val (.int j1_0), .unset, .unset, .unset, .unset, .unset, .unset, .unset] [(.int p6)]))
    refine Goes.pre (fun t kt => XS.iconst X0.here hx rfl (hb hby at_20) kt) ?_
    show Goes p e below s _ _ _ (s₁.setTop (mkF m 21 #[.val (.long q1), .second, .val (.int p2), .val (.long q3), .second, .val (.long q4), .second, .val (.long q5), .second, .val (.int p6), .val (.int (p2.toInt16.toInt32)), .val (.int j1_0), .unset, .unset, .unset, .unset, .unset, .unset, .unset] [(.int (2 : Int32)), (.int p6)]))
    refine Goes.pre (fun t kt => XS.iand X0.here hx rfl (hb hby at_21) rfl kt) ?_
    show Goes p e below s _ _ _ (s₁.setTop (mkF m 22 #[.val (.long q1), .second, .val (.int p2), .val (.long q3), .second, .val (.long q4), .second, .val (.long q5), .second, .val (.int p6), .val (.int (p2.toInt16.toInt32)), .val (.int j1_0), .unset, .unset, .unset, .unset, .unset, .unset, .unset] [(.int (p6 &&& (2 : Int32)))]))
    by_cases hc22 : (p6 &&& (2 : Int32)) = (0 : Int32)
    · refine Goes.pre (fun t kt => XS.ifYes X0.here hx rfl (pc0 := 22) (pc' := 29) rfl (hb hby at_22) rfl (Jvm.Free.XT.i0_eq_t (hc22)) (by decide) (by decide) kt) ?_
      show Goes p e below s _ _ _ (s₁.setTop (mkF m 29 #[.val (.long q1), .second, .val (.int p2), .val (.long q3), .second, .val (.long q4), .second, .val (.long q5), .second, .val (.int p6), .val (.int (p2.toInt16.toInt32)), .val (.int j1_0), .unset, .unset, .unset, .unset, .unset, .unset, .unset] []))
      refine Goes.pre (fun t kt => XS.iconst X0.here hx rfl (hb hby at_29) kt) ?_
      show Goes p e below s _ _ _ (s₁.setTop (mkF m 30 #[.val (.long q1), .second, .val (.int p2), .val (.long q3), .second, .val (.long q4), .second, .val (.long q5), .second, .val (.int p6), .val (.int (p2.toInt16.toInt32)), .val (.int j1_0), .unset, .unset, .unset, .unset, .unset, .unset, .unset] [(.int (0 : Int32))]))
      refine Goes.pre (fun t kt => XS.istore X0.here hx rfl (hb hby at_30) rfl (l' := #[.val (.long q1), .second, .val (.int p2), .val (.long q3), .second, .val (.long q4), .second, .val (.long q5), .second, .val (.int p6), .val (.int (p2.toInt16.toInt32)), .val (.int j1_0), .val (.int (0 : Int32)), .unset, .unset, .unset, .unset, .unset, .unset]) rfl kt) ?_
      show Goes p e below s _ _ _ (s₁.setTop (mkF m 32 #[.val (.long q1), .second, .val (.int p2), .val (.long q3), .second, .val (.long q4), .second, .val (.long q5), .second, .val (.int p6), .val (.int (p2.toInt16.toInt32)), .val (.int j1_0), .val (.int (0 : Int32)), .unset, .unset, .unset, .unset, .unset, .unset] []))
      refine Goes.pre (fun t kt => XS.iload X0.here hx rfl (hb hby at_32) rfl kt) ?_
      show Goes p e below s _ _ _ (s₁.setTop (mkF m 34 #[.val (.long q1), .second, .val (.int p2), .val (.long q3), .second, .val (.long q4), .second, .val (.long q5), .second, .val (.int p6), .val (.int (p2.toInt16.toInt32)), .val (.int j1_0), .val (.int (0 : Int32)), .unset, .unset, .unset, .unset, .unset, .unset] [(.int p6)]))
      refine Goes.pre (fun t kt => XS.iconst X0.here hx rfl (hb hby at_34) kt) ?_
      show Goes p e below s _ _ _ (s₁.setTop (mkF m 35 #[.val (.long q1), .second, .val (.int p2), .val (.long q3), .second, .val (.long q4), .second, .val (.long q5), .second, .val (.int p6), .val (.int (p2.toInt16.toInt32)), .val (.int j1_0), .val (.int (0 : Int32)), .unset, .unset, .unset, .unset, .unset, .unset] [(.int (4 : Int32)), (.int p6)]))
      refine Goes.pre (fun t kt => XS.iand X0.here hx rfl (hb hby at_35) rfl kt) ?_
      show Goes p e below s _ _ _ (s₁.setTop (mkF m 36 #[.val (.long q1), .second, .val (.int p2), .val (.long q3), .second, .val (.long q4), .second, .val (.long q5), .second, .val (.int p6), .val (.int (p2.toInt16.toInt32)), .val (.int j1_0), .val (.int (0 : Int32)), .unset, .unset, .unset, .unset, .unset, .unset] [(.int (p6 &&& (4 : Int32)))]))
      have J2 : ∀ (j2_0 : Int32), Goes p e below s (Q_rm0 Z q1 p2 q3 q4 q5 p6 G1 h0 n0) room_1.cells room_1.slots (s₁.setTop (mkF m 44 #[.val (.long q1), .second, .val (.int p2), .val (.long q3), .second, .val (.long q4), .second, .val (.long q5), .second, .val (.int p6), .val (.int (p2.toInt16.toInt32)), .val (.int j1_0), .val (.int (0 : Int32)), .unset, .unset, .unset, .unset, .unset, .unset] [(.int j2_0)])) := by
        intro j2_0
        refine Goes.pre (fun t kt => XS.istore X0.here hx rfl (hb hby at_44) rfl (l' := #[.val (.long q1), .second, .val (.int p2), .val (.long q3), .second, .val (.long q4), .second, .val (.long q5), .second, .val (.int p6), .val (.int (p2.toInt16.toInt32)), .val (.int j1_0), .val (.int (0 : Int32)), .val (.int j2_0), .unset, .unset, .unset, .unset, .unset]) rfl kt) ?_
        show Goes p e below s _ _ _ (s₁.setTop (mkF m 46 #[.val (.long q1), .second, .val (.int p2), .val (.long q3), .second, .val (.long q4), .second, .val (.long q5), .second, .val (.int p6), .val (.int (p2.toInt16.toInt32)), .val (.int j1_0), .val (.int (0 : Int32)), .val (.int j2_0), .unset, .unset, .unset, .unset, .unset] []))
        refine Goes.pre (fun t kt => XS.iconst X0.here hx rfl (hb hby at_46) kt) ?_
        show Goes p e below s _ _ _ (s₁.setTop (mkF m 47 #[.val (.long q1), .second, .val (.int p2), .val (.long q3), .second, .val (.long q4), .second, .val (.long q5), .second, .val (.int p6), .val (.int (p2.toInt16.toInt32)), .val (.int j1_0), .val (.int (0 : Int32)), .val (.int j2_0), .unset, .unset, .unset, .unset, .unset] [(.int (2 : Int32))]))
        obtain ⟨T3, h3, k3, X3, e3, E3, A3, st3⟩ := newP X0 hx hZ (hw _ (List.mem_of_getElem? (i := 0) rfl)) e0 (g := (mkF m 47 #[.val (.long q1), .second, .val (.int p2), .val (.long q3), .second, .val (.long q4), .second, .val (.long q5), .second, .val (.int p6), .val (.int (p2.toInt16.toInt32)), .val (.int j1_0), .val (.int (0 : Int32)), .val (.int j2_0), .unset, .unset, .unset, .unset, .unset] [(.int (2 : Int32))])) rfl (hb hby at_47) rfl (by decide) (cap := 2) (by decide) (by decide) (by decide) (by decide)
        obtain ⟨b3, g3⟩ : ∃ z, z = h0.size := ⟨_, rfl⟩
        rw [← g3] at A3 st3
        have gg3 : n0 ≤ b3 := Nat.le_trans Z0 (Nat.le_of_eq g3.symm)
        have Z3 : n0 ≤ h3.size := Nat.le_trans Z0 E3.1
        have Od3 := X00.ext E3
        refine Goes.pre st3 ?_
        have V3 : Arv Z h3 b3 k3 .char (2 : Int32) [(.int (0 : Int32)), (.int (0 : Int32))] (.int (0 : Int32)) := (Arv.new A3 (by decide)).pad (pad_rep [] (.int (0 : Int32)) 2)
        show Goes p e below s _ _ _ (T3.setTop (mkF m 49 #[.val (.long q1), .second, .val (.int p2), .val (.long q3), .second, .val (.long q4), .second, .val (.long q5), .second, .val (.int p6), .val (.int (p2.toInt16.toInt32)), .val (.int j1_0), .val (.int (0 : Int32)), .val (.int j2_0), .unset, .unset, .unset, .unset, .unset] [(.ref b3)]))
        refine Goes.pre (fun t kt => XS.astore X3.here hx rfl (hb hby at_49) rfl rfl (l' := #[.val (.long q1), .second, .val (.int p2), .val (.long q3), .second, .val (.long q4), .second, .val (.long q5), .second, .val (.int p6), .val (.int (p2.toInt16.toInt32)), .val (.int j1_0), .val (.int (0 : Int32)), .val (.int j2_0), .val (.ref b3), .unset, .unset, .unset, .unset]) rfl kt) ?_
        show Goes p e below s _ _ _ (T3.setTop (mkF m 51 #[.val (.long q1), .second, .val (.int p2), .val (.long q3), .second, .val (.long q4), .second, .val (.long q5), .second, .val (.int p6), .val (.int (p2.toInt16.toInt32)), .val (.int j1_0), .val (.int (0 : Int32)), .val (.int j2_0), .val (.ref b3), .unset, .unset, .unset, .unset] []))
        refine Goes.pre (fun t kt => XS.aload X3.here hx rfl (hb hby at_51) rfl rfl kt) ?_
        show Goes p e below s _ _ _ (T3.setTop (mkF m 53 #[.val (.long q1), .second, .val (.int p2), .val (.long q3), .second, .val (.long q4), .second, .val (.long q5), .second, .val (.int p6), .val (.int (p2.toInt16.toInt32)), .val (.int j1_0), .val (.int (0 : Int32)), .val (.int j2_0), .val (.ref b3), .unset, .unset, .unset, .unset] [(.ref b3)]))
        refine Goes.pre (fun t kt => XS.iconst X3.here hx rfl (hb hby at_53) kt) ?_
        show Goes p e below s _ _ _ (T3.setTop (mkF m 54 #[.val (.long q1), .second, .val (.int p2), .val (.long q3), .second, .val (.long q4), .second, .val (.long q5), .second, .val (.int p6), .val (.int (p2.toInt16.toInt32)), .val (.int j1_0), .val (.int (0 : Int32)), .val (.int j2_0), .val (.ref b3), .unset, .unset, .unset, .unset] [(.int (0 : Int32)), (.ref b3)]))
        refine Goes.pre (fun t kt => XS.iload X3.here hx rfl (hb hby at_54) rfl kt) ?_
        show Goes p e below s _ _ _ (T3.setTop (mkF m 56 #[.val (.long q1), .second, .val (.int p2), .val (.long q3), .second, .val (.long q4), .second, .val (.long q5), .second, .val (.int p6), .val (.int (p2.toInt16.toInt32)), .val (.int j1_0), .val (.int (0 : Int32)), .val (.int j2_0), .val (.ref b3), .unset, .unset, .unset, .unset] [(.int p6), (.int (0 : Int32)), (.ref b3)]))
        refine Goes.pre (fun t kt => XS.bipush X3.here hx rfl (hb hby at_56) kt) ?_
        show Goes p e below s _ _ _ (T3.setTop (mkF m 58 #[.val (.long q1), .second, .val (.int p2), .val (.long q3), .second, .val (.long q4), .second, .val (.long q5), .second, .val (.int p6), .val (.int (p2.toInt16.toInt32)), .val (.int j1_0), .val (.int (0 : Int32)), .val (.int j2_0), .val (.ref b3), .unset, .unset, .unset, .unset] [(.int (8 : Int32)), (.int p6), (.int (0 : Int32)), (.ref b3)]))
        refine Goes.pre (fun t kt => XS.iushr X3.here hx rfl (hb hby at_58) rfl kt) ?_
        show Goes p e below s _ _ _ (T3.setTop (mkF m 59 #[.val (.long q1), .second, .val (.int p2), .val (.long q3), .second, .val (.long q4), .second, .val (.long q5), .second, .val (.int p6), .val (.int (p2.toInt16.toInt32)), .val (.int j1_0), .val (.int (0 : Int32)), .val (.int j2_0), .val (.ref b3), .unset, .unset, .unset, .unset] [(.int ((p6.toUInt32 >>> ((8 : Int32) &&& 31).toUInt32).toInt32)), (.int (0 : Int32)), (.ref b3)]))
        refine Goes.pre (fun t kt => XS.sipush X3.here hx rfl (hb hby at_59) kt) ?_
        show Goes p e below s _ _ _ (T3.setTop (mkF m 62 #[.val (.long q1), .second, .val (.int p2), .val (.long q3), .second, .val (.long q4), .second, .val (.long q5), .second, .val (.int p6), .val (.int (p2.toInt16.toInt32)), .val (.int j1_0), .val (.int (0 : Int32)), .val (.int j2_0), .val (.ref b3), .unset, .unset, .unset, .unset] [(.int (255 : Int32)), (.int ((p6.toUInt32 >>> ((8 : Int32) &&& 31).toUInt32).toInt32)), (.int (0 : Int32)), (.ref b3)]))
        refine Goes.pre (fun t kt => XS.iand X3.here hx rfl (hb hby at_62) rfl kt) ?_
        show Goes p e below s _ _ _ (T3.setTop (mkF m 63 #[.val (.long q1), .second, .val (.int p2), .val (.long q3), .second, .val (.long q4), .second, .val (.long q5), .second, .val (.int p6), .val (.int (p2.toInt16.toInt32)), .val (.int j1_0), .val (.int (0 : Int32)), .val (.int j2_0), .val (.ref b3), .unset, .unset, .unset, .unset] [(.int (((p6.toUInt32 >>> ((8 : Int32) &&& 31).toUInt32).toInt32) &&& (255 : Int32))), (.int (0 : Int32)), (.ref b3)]))
        refine Goes.pre (fun t kt => XS.i2c X3.here hx rfl (hb hby at_63) rfl kt) ?_
        show Goes p e below s _ _ _ (T3.setTop (mkF m 64 #[.val (.long q1), .second, .val (.int p2), .val (.long q3), .second, .val (.long q4), .second, .val (.long q5), .second, .val (.int p6), .val (.int (p2.toInt16.toInt32)), .val (.int j1_0), .val (.int (0 : Int32)), .val (.int j2_0), .val (.ref b3), .unset, .unset, .unset, .unset] [(.int ((((p6.toUInt32 >>> ((8 : Int32) &&& 31).toUInt32).toInt32) &&& (255 : Int32)).toUInt32.toUInt16.toUInt32.toInt32)), (.int (0 : Int32)), (.ref b3)]))
        obtain ⟨cl4, Ar4, aq4, aS4, aN4, aH4, aG4⟩ := V3
        have hin4 : ¬ ((0 : Int32) < 0 ∨ cl4.slots.size ≤ ((0 : Int32)).toNatClampNeg) := inb_of aS4 ⟨by decide, by decide⟩
        obtain ⟨T4, h4, X4, e4, W4, st4⟩ := stC X3 hx hZ e3 Ar4 (j := (0 : Int32)) hin4 (g := (mkF m 64 #[.val (.long q1), .second, .val (.int p2), .val (.long q3), .second, .val (.long q4), .second, .val (.long q5), .second, .val (.int p6), .val (.int (p2.toInt16.toInt32)), .val (.int j1_0), .val (.int (0 : Int32)), .val (.int j2_0), .val (.ref b3), .unset, .unset, .unset, .unset] [(.int ((((p6.toUInt32 >>> ((8 : Int32) &&& 31).toUInt32).toInt32) &&& (255 : Int32)).toUInt32.toUInt16.toUInt32.toInt32)), (.int (0 : Int32)), (.ref b3)])) rfl rfl (hb hby at_64)
        refine Goes.pre st4 ?_
        have Z4 : n0 ≤ h4.size := Nat.le_trans Z3 (Keep.of_wr W4).1
        have N4 := Fr.snoc X4 N0 gg3
        have Od4 := Od3.wr W4 gg3
        have V4 : Arv Z h4 b3 k3 .char (2 : Int32) [(.int (nar .char ((((p6.toUInt32 >>> ((8 : Int32) &&& 31).toUInt32).toInt32) &&& (255 : Int32)).toUInt32.toUInt16.toUInt32.toInt32))), (.int (0 : Int32))] (.int (0 : Int32)) := Arv.set Ar4 aq4 aS4 aN4 aH4 aG4 (fits_nar_char _) W4 0 rfl (Nat.le_of_ble_eq_true rfl)
        show Goes p e below s _ _ _ (T4.setTop (mkF m 65 #[.val (.long q1), .second, .val (.int p2), .val (.long q3), .second, .val (.long q4), .second, .val (.long q5), .second, .val (.int p6), .val (.int (p2.toInt16.toInt32)), .val (.int j1_0), .val (.int (0 : Int32)), .val (.int j2_0), .val (.ref b3), .unset, .unset, .unset, .unset] []))
        refine Goes.pre (fun t kt => XS.aload X4.here hx rfl (hb hby at_65) rfl rfl kt) ?_
        show Goes p e below s _ _ _ (T4.setTop (mkF m 67 #[.val (.long q1), .second, .val (.int p2), .val (.long q3), .second, .val (.long q4), .second, .val (.long q5), .second, .val (.int p6), .val (.int (p2.toInt16.toInt32)), .val (.int j1_0), .val (.int (0 : Int32)), .val (.int j2_0), .val (.ref b3), .unset, .unset, .unset, .unset] [(.ref b3)]))
        refine Goes.pre (fun t kt => XS.iconst X4.here hx rfl (hb hby at_67) kt) ?_
        show Goes p e below s _ _ _ (T4.setTop (mkF m 68 #[.val (.long q1), .second, .val (.int p2), .val (.long q3), .second, .val (.long q4), .second, .val (.long q5), .second, .val (.int p6), .val (.int (p2.toInt16.toInt32)), .val (.int j1_0), .val (.int (0 : Int32)), .val (.int j2_0), .val (.ref b3), .unset, .unset, .unset, .unset] [(.int (1 : Int32)), (.ref b3)]))
        refine Goes.pre (fun t kt => XS.iload X4.here hx rfl (hb hby at_68) rfl kt) ?_
        show Goes p e below s _ _ _ (T4.setTop (mkF m 70 #[.val (.long q1), .second, .val (.int p2), .val (.long q3), .second, .val (.long q4), .second, .val (.long q5), .second, .val (.int p6), .val (.int (p2.toInt16.toInt32)), .val (.int j1_0), .val (.int (0 : Int32)), .val (.int j2_0), .val (.ref b3), .unset, .unset, .unset, .unset] [(.int p6), (.int (1 : Int32)), (.ref b3)]))
        refine Goes.pre (fun t kt => XS.bipush X4.here hx rfl (hb hby at_70) kt) ?_
        show Goes p e below s _ _ _ (T4.setTop (mkF m 72 #[.val (.long q1), .second, .val (.int p2), .val (.long q3), .second, .val (.long q4), .second, .val (.long q5), .second, .val (.int p6), .val (.int (p2.toInt16.toInt32)), .val (.int j1_0), .val (.int (0 : Int32)), .val (.int j2_0), .val (.ref b3), .unset, .unset, .unset, .unset] [(.int (16 : Int32)), (.int p6), (.int (1 : Int32)), (.ref b3)]))
        refine Goes.pre (fun t kt => XS.iushr X4.here hx rfl (hb hby at_72) rfl kt) ?_
        show Goes p e below s _ _ _ (T4.setTop (mkF m 73 #[.val (.long q1), .second, .val (.int p2), .val (.long q3), .second, .val (.long q4), .second, .val (.long q5), .second, .val (.int p6), .val (.int (p2.toInt16.toInt32)), .val (.int j1_0), .val (.int (0 : Int32)), .val (.int j2_0), .val (.ref b3), .unset, .unset, .unset, .unset] [(.int ((p6.toUInt32 >>> ((16 : Int32) &&& 31).toUInt32).toInt32)), (.int (1 : Int32)), (.ref b3)]))
        refine Goes.pre (fun t kt => XS.sipush X4.here hx rfl (hb hby at_73) kt) ?_
        show Goes p e below s _ _ _ (T4.setTop (mkF m 76 #[.val (.long q1), .second, .val (.int p2), .val (.long q3), .second, .val (.long q4), .second, .val (.long q5), .second, .val (.int p6), .val (.int (p2.toInt16.toInt32)), .val (.int j1_0), .val (.int (0 : Int32)), .val (.int j2_0), .val (.ref b3), .unset, .unset, .unset, .unset] [(.int (255 : Int32)), (.int ((p6.toUInt32 >>> ((16 : Int32) &&& 31).toUInt32).toInt32)), (.int (1 : Int32)), (.ref b3)]))
        refine Goes.pre (fun t kt => XS.iand X4.here hx rfl (hb hby at_76) rfl kt) ?_
        show Goes p e below s _ _ _ (T4.setTop (mkF m 77 #[.val (.long q1), .second, .val (.int p2), .val (.long q3), .second, .val (.long q4), .second, .val (.long q5), .second, .val (.int p6), .val (.int (p2.toInt16.toInt32)), .val (.int j1_0), .val (.int (0 : Int32)), .val (.int j2_0), .val (.ref b3), .unset, .unset, .unset, .unset] [(.int (((p6.toUInt32 >>> ((16 : Int32) &&& 31).toUInt32).toInt32) &&& (255 : Int32))), (.int (1 : Int32)), (.ref b3)]))
        refine Goes.pre (fun t kt => XS.i2c X4.here hx rfl (hb hby at_77) rfl kt) ?_
        show Goes p e below s _ _ _ (T4.setTop (mkF m 78 #[.val (.long q1), .second, .val (.int p2), .val (.long q3), .second, .val (.long q4), .second, .val (.long q5), .second, .val (.int p6), .val (.int (p2.toInt16.toInt32)), .val (.int j1_0), .val (.int (0 : Int32)), .val (.int j2_0), .val (.ref b3), .unset, .unset, .unset, .unset] [(.int ((((p6.toUInt32 >>> ((16 : Int32) &&& 31).toUInt32).toInt32) &&& (255 : Int32)).toUInt32.toUInt16.toUInt32.toInt32)), (.int (1 : Int32)), (.ref b3)]))
        obtain ⟨cl5, Ar5, aq5, aS5, aN5, aH5, aG5⟩ := V4
        have hin5 : ¬ ((1 : Int32) < 0 ∨ cl5.slots.size ≤ ((1 : Int32)).toNatClampNeg) := inb_of aS5 ⟨by decide, by decide⟩
        obtain ⟨T5, h5, X5, e5, W5, st5⟩ := stC X4 hx hZ e4 Ar5 (j := (1 : Int32)) hin5 (g := (mkF m 78 #[.val (.long q1), .second, .val (.int p2), .val (.long q3), .second, .val (.long q4), .second, .val (.long q5), .second, .val (.int p6), .val (.int (p2.toInt16.toInt32)), .val (.int j1_0), .val (.int (0 : Int32)), .val (.int j2_0), .val (.ref b3), .unset, .unset, .unset, .unset] [(.int ((((p6.toUInt32 >>> ((16 : Int32) &&& 31).toUInt32).toInt32) &&& (255 : Int32)).toUInt32.toUInt16.toUInt32.toInt32)), (.int (1 : Int32)), (.ref b3)])) rfl rfl (hb hby at_78)
        refine Goes.pre st5 ?_
        have Z5 : n0 ≤ h5.size := Nat.le_trans Z4 (Keep.of_wr W5).1
        have N5 := Fr.snoc X5 N4 gg3
        have Od5 := Od4.wr W5 gg3
        have V5 : Arv Z h5 b3 k3 .char (2 : Int32) [(.int (nar .char ((((p6.toUInt32 >>> ((8 : Int32) &&& 31).toUInt32).toInt32) &&& (255 : Int32)).toUInt32.toUInt16.toUInt32.toInt32))), (.int (nar .char ((((p6.toUInt32 >>> ((16 : Int32) &&& 31).toUInt32).toInt32) &&& (255 : Int32)).toUInt32.toUInt16.toUInt32.toInt32)))] (.int (0 : Int32)) := Arv.set Ar5 aq5 aS5 aN5 aH5 aG5 (fits_nar_char _) W5 1 rfl (Nat.le_of_ble_eq_true rfl)
        show Goes p e below s _ _ _ (T5.setTop (mkF m 79 #[.val (.long q1), .second, .val (.int p2), .val (.long q3), .second, .val (.long q4), .second, .val (.long q5), .second, .val (.int p6), .val (.int (p2.toInt16.toInt32)), .val (.int j1_0), .val (.int (0 : Int32)), .val (.int j2_0), .val (.ref b3), .unset, .unset, .unset, .unset] []))
        obtain ⟨T6, h6, X6, e6, E6, A6, D6, U6, st6⟩ := newO X5 hx hZ hown (hw _ (List.mem_of_getElem? (i := 1) rfl)) (hw _ (List.mem_of_getElem? (i := 2) rfl)) (hw _ (List.mem_of_getElem? (i := 3) rfl)) e5 (g := (mkF m 79 #[.val (.long q1), .second, .val (.int p2), .val (.long q3), .second, .val (.long q4), .second, .val (.long q5), .second, .val (.int p6), .val (.int (p2.toInt16.toInt32)), .val (.int j1_0), .val (.int (0 : Int32)), .val (.int j2_0), .val (.ref b3), .unset, .unset, .unset, .unset] [])) rfl (hb hby at_79) (by decide) (by decide)
        obtain ⟨b6, g6⟩ : ∃ z, z = h5.size := ⟨_, rfl⟩
        rw [← g6] at A6 D6 U6 st6
        have ltb3_6 : b3 < b6 := Nat.lt_of_lt_of_le V5.lt (Nat.le_of_eq g6.symm)
        have gg6 : n0 ≤ b6 := Nat.le_trans Z5 (Nat.le_of_eq g6.symm)
        have Z6 : n0 ≤ h6.size := Nat.le_trans Z5 E6.1
        have Od6 := Od5.ext E6
        refine Goes.pre st6 ?_
        have Fn6_27 : Fld Z h6 b6 "java/lang/String" "coder" "B" (.int (0 : Int32)) := D6 (Or.inr (hw _ (List.mem_of_getElem? (i := 27) rfl))) (ty := .byte) (by decide)
        have Fn6_29 : Fld Z h6 b6 "java/lang/String" "value" "[B" .null := D6 (Or.inr (hw _ (List.mem_of_getElem? (i := 29) rfl))) (ty := (.array .byte)) (by decide)
        show Goes p e below s _ _ _ (T6.setTop (mkF m 82 #[.val (.long q1), .second, .val (.int p2), .val (.long q3), .second, .val (.long q4), .second, .val (.long q5), .second, .val (.int p6), .val (.int (p2.toInt16.toInt32)), .val (.int j1_0), .val (.int (0 : Int32)), .val (.int j2_0), .val (.ref b3), .unset, .unset, .unset, .unset] [(.ref b6)]))
        refine Goes.pre (fun t kt => XS.dup X6.here hx rfl (hb hby at_82) rfl rfl kt) ?_
        show Goes p e below s _ _ _ (T6.setTop (mkF m 83 #[.val (.long q1), .second, .val (.int p2), .val (.long q3), .second, .val (.long q4), .second, .val (.long q5), .second, .val (.int p6), .val (.int (p2.toInt16.toInt32)), .val (.int j1_0), .val (.int (0 : Int32)), .val (.int j2_0), .val (.ref b3), .unset, .unset, .unset, .unset] [(.ref b6), (.ref b6)]))
        refine Goes.pre (fun t kt => XS.aload X6.here hx rfl (hb hby at_83) rfl rfl kt) ?_
        show Goes p e below s _ _ _ (T6.setTop (mkF m 85 #[.val (.long q1), .second, .val (.int p2), .val (.long q3), .second, .val (.long q4), .second, .val (.long q5), .second, .val (.int p6), .val (.int (p2.toInt16.toInt32)), .val (.int j1_0), .val (.int (0 : Int32)), .val (.int j2_0), .val (.ref b3), .unset, .unset, .unset, .unset] [(.ref b3), (.ref b6), (.ref b6)]))
        have hws : ∀ d ∈ StrChars.Road.words, d.before a0 Z = true := fun d hd => hw d ((by decide +kernel : ∀ d ∈ StrChars.Road.words, d ∈ tables_1) d hd)
        have hp7 : ∀ c ∈ ([(nar .char ((((p6.toUInt32 >>> ((8 : Int32) &&& 31).toUInt32).toInt32) &&& (255 : Int32)).toUInt32.toUInt16.toUInt32.toInt32)), (nar .char ((((p6.toUInt32 >>> ((16 : Int32) &&& 31).toUInt32).toInt32) &&& (255 : Int32)).toUInt32.toUInt16.toUInt32.toInt32))] : List Int32), ¬ c < 0 ∧ ¬ (255 : Int32) < c := by
          intro c hc
          simp only [List.mem_cons, List.not_mem_nil, or_false] at hc
          rcases hc with rfl | rfl
          · exact own_lat _
          · exact own_lat _
        have fc8 : Arv Z h6 b3 k3 .char (2 : Int32) [(.int (nar .char ((((p6.toUInt32 >>> ((8 : Int32) &&& 31).toUInt32).toInt32) &&& (255 : Int32)).toUInt32.toUInt16.toUInt32.toInt32))), (.int (nar .char ((((p6.toUInt32 >>> ((16 : Int32) &&& 31).toUInt32).toInt32) &&& (255 : Int32)).toUInt32.toUInt16.toUInt32.toInt32)))] (.int (0 : Int32)) := (V5.ext E6)
        obtain ⟨_, _, ⟨T7, L7, k7, n7⟩, -, X7, ⟨Lc7, hQ7, l7, y7, z7⟩, st7⟩ := X6.specialBack hx (y := (⟨"java/lang/String", "<init>", "([C)V"⟩ : MethodName)) rfl hown (mvT hZ (hw _ (List.mem_of_getElem? (i := 4) rfl))) (mvT hZ (hw _ (List.mem_of_getElem? (i := 5) rfl))) (mvT hZ (hw _ (List.mem_of_getElem? (i := 6) rfl))) (by decide) (StrChars.Road.backV (W := 1) hZ hws (kI := 4) (hw _ (List.mem_of_getElem? (i := 2) rfl)) (cs := ([(nar .char ((((p6.toUInt32 >>> ((8 : Int32) &&& 31).toUInt32).toInt32) &&& (255 : Int32)).toUInt32.toUInt16.toUInt32.toInt32)), (nar .char ((((p6.toUInt32 >>> ((16 : Int32) &&& 31).toUInt32).toInt32) &&& (255 : Int32)).toUInt32.toUInt16.toUInt32.toInt32))] : List Int32)) (bs := ([(nar .char ((((p6.toUInt32 >>> ((8 : Int32) &&& 31).toUInt32).toInt32) &&& (255 : Int32)).toUInt32.toUInt16.toUInt32.toInt32)), (nar .char ((((p6.toUInt32 >>> ((16 : Int32) &&& 31).toUInt32).toInt32) &&& (255 : Int32)).toUInt32.toUInt16.toUInt32.toInt32))] : List Int32).map (fun c => c.toInt8.toInt32)) (n := 2) gg6 Z6 A6 Fn6_29 Fn6_27 fc8 (pf_S_java_lang_String_COMPACT_STRINGS.ext Od6.2) hcs rfl rfl (by decide) (by decide) hp7 rfl (by decide) (by decide)) (g := (mkF m 85 #[.val (.long q1), .second, .val (.int p2), .val (.long q3), .second, .val (.long q4), .second, .val (.long q5), .second, .val (.int p6), .val (.int (p2.toInt16.toInt32)), .val (.int j1_0), .val (.int (0 : Int32)), .val (.int j2_0), .val (.ref b3), .unset, .unset, .unset, .unset] [(.ref b3), (.ref b6), (.ref b6)])) rfl (by rw [hml]; rfl) (Steps.refl _) (a := b6) (argsL := [(.ref b3)]) (rest := [(.ref b6)]) (lenOf pd_1 rfl) rfl (by show 2 * 0 + _ ≤ _; exact Nat.le_of_eq rfl) (hb hby at_85) (fun _ _ => ⟨rfl, e6, (by decide : 2 + 1 ≤ _), (by decide : 6 + 2 ≤ _)⟩)
        dsimp only [Pt.U, Pt.locs, Pt.cells, Pt.slots] at X7 l7 y7 z7 st7 hQ7
        subst l7 y7 z7
        obtain ⟨rfl, Nq7, Kq7, Eq7, Cq7, t_7, kb_7, Gt7, St7, ne7, Vq7, Aq7⟩ := hQ7
        refine Goes.run st7 ?_
        have N7 := Fr.app N5 Nq7
        obtain ⟨h7, e7⟩ : ∃ z, T7.heap = z := ⟨_, rfl⟩
        rw [e7] at Kq7 Eq7 Cq7 Vq7 Aq7
        have ltb3_7 : b3 < t_7 := Nat.lt_of_lt_of_le fc8.lt St7
        have Z7 : n0 ≤ h7.size := Nat.le_trans Z6 Kq7.1
        have Od7 := Od6.keep Kq7 (allS gg6 all0)
        show Goes p e below s _ _ _ (T7.setTop (mkF m 88 #[.val (.long q1), .second, .val (.int p2), .val (.long q3), .second, .val (.long q4), .second, .val (.long q5), .second, .val (.int p6), .val (.int (p2.toInt16.toInt32)), .val (.int j1_0), .val (.int (0 : Int32)), .val (.int j2_0), .val (.ref b3), .unset, .unset, .unset, .unset] [(.ref b6)]))
        refine Goes.pre (fun t kt => XS.astore X7.here hx rfl (hb hby at_88) rfl rfl (l' := #[.val (.long q1), .second, .val (.int p2), .val (.long q3), .second, .val (.long q4), .second, .val (.long q5), .second, .val (.int p6), .val (.int (p2.toInt16.toInt32)), .val (.int j1_0), .val (.int (0 : Int32)), .val (.int j2_0), .val (.ref b3), .val (.ref b6), .unset, .unset, .unset]) rfl kt) ?_
        show Goes p e below s _ _ _ (T7.setTop (mkF m 90 #[.val (.long q1), .second, .val (.int p2), .val (.long q3), .second, .val (.long q4), .second, .val (.long q5), .second, .val (.int p6), .val (.int (p2.toInt16.toInt32)), .val (.int j1_0), .val (.int (0 : Int32)), .val (.int j2_0), .val (.ref b3), .val (.ref b6), .unset, .unset, .unset] []))
        refine Goes.pre (fun t kt => XS.iload X7.here hx rfl (hb hby at_90) rfl kt) ?_
        show Goes p e below s _ _ _ (T7.setTop (mkF m 92 #[.val (.long q1), .second, .val (.int p2), .val (.long q3), .second, .val (.long q4), .second, .val (.long q5), .second, .val (.int p6), .val (.int (p2.toInt16.toInt32)), .val (.int j1_0), .val (.int (0 : Int32)), .val (.int j2_0), .val (.ref b3), .val (.ref b6), .unset, .unset, .unset] [(.int (0 : Int32))]))
        refine Goes.pre (fun t kt => XS.ifYes X7.here hx rfl (pc0 := 92) (pc' := 100) rfl (hb hby at_92) rfl (Jvm.Free.XT.i0_eq_t ((by decide))) (by decide) (by decide) kt) ?_
        show Goes p e below s _ _ _ (T7.setTop (mkF m 100 #[.val (.long q1), .second, .val (.int p2), .val (.long q3), .second, .val (.long q4), .second, .val (.long q5), .second, .val (.int p6), .val (.int (p2.toInt16.toInt32)), .val (.int j1_0), .val (.int (0 : Int32)), .val (.int j2_0), .val (.ref b3), .val (.ref b6), .unset, .unset, .unset] []))
        refine Goes.pre (fun t kt => XS.aconstNull X7.here hx rfl (hb hby at_100) kt) ?_
        show Goes p e below s _ _ _ (T7.setTop (mkF m 101 #[.val (.long q1), .second, .val (.int p2), .val (.long q3), .second, .val (.long q4), .second, .val (.long q5), .second, .val (.int p6), .val (.int (p2.toInt16.toInt32)), .val (.int j1_0), .val (.int (0 : Int32)), .val (.int j2_0), .val (.ref b3), .val (.ref b6), .unset, .unset, .unset] [.null]))
        refine Goes.pre (fun t kt => XS.astore X7.here hx rfl (hb hby at_101) rfl rfl (l' := #[.val (.long q1), .second, .val (.int p2), .val (.long q3), .second, .val (.long q4), .second, .val (.long q5), .second, .val (.int p6), .val (.int (p2.toInt16.toInt32)), .val (.int j1_0), .val (.int (0 : Int32)), .val (.int j2_0), .val (.ref b3), .val (.ref b6), .val .null, .unset, .unset]) rfl kt) ?_
        show Goes p e below s _ _ _ (T7.setTop (mkF m 103 #[.val (.long q1), .second, .val (.int p2), .val (.long q3), .second, .val (.long q4), .second, .val (.long q5), .second, .val (.int p6), .val (.int (p2.toInt16.toInt32)), .val (.int j1_0), .val (.int (0 : Int32)), .val (.int j2_0), .val (.ref b3), .val (.ref b6), .val .null, .unset, .unset] []))
        refine Goes.pre (fun t kt => XS.iload X7.here hx rfl (hb hby at_103) rfl kt) ?_
        show Goes p e below s _ _ _ (T7.setTop (mkF m 105 #[.val (.long q1), .second, .val (.int p2), .val (.long q3), .second, .val (.long q4), .second, .val (.long q5), .second, .val (.int p6), .val (.int (p2.toInt16.toInt32)), .val (.int j1_0), .val (.int (0 : Int32)), .val (.int j2_0), .val (.ref b3), .val (.ref b6), .val .null, .unset, .unset] [(.int (0 : Int32))]))
        refine Goes.pre (fun t kt => XS.ifYes X7.here hx rfl (pc0 := 105) (pc' := 112) rfl (hb hby at_105) rfl (Jvm.Free.XT.i0_eq_t ((by decide))) (by decide) (by decide) kt) ?_
        show Goes p e below s _ _ _ (T7.setTop (mkF m 112 #[.val (.long q1), .second, .val (.int p2), .val (.long q3), .second, .val (.long q4), .second, .val (.long q5), .second, .val (.int p6), .val (.int (p2.toInt16.toInt32)), .val (.int j1_0), .val (.int (0 : Int32)), .val (.int j2_0), .val (.ref b3), .val (.ref b6), .val .null, .unset, .unset] []))
        refine Goes.pre (fun t kt => XS.aload X7.here hx rfl (hb hby at_112) rfl rfl kt) ?_
        show Goes p e below s _ _ _ (T7.setTop (mkF m 114 #[.val (.long q1), .second, .val (.int p2), .val (.long q3), .second, .val (.long q4), .second, .val (.long q5), .second, .val (.int p6), .val (.int (p2.toInt16.toInt32)), .val (.int j1_0), .val (.int (0 : Int32)), .val (.int j2_0), .val (.ref b3), .val (.ref b6), .val .null, .unset, .unset] [(.ref b6)]))
        refine Goes.pre (fun t kt => XS.astore X7.here hx rfl (hb hby at_114) rfl rfl (l' := #[.val (.long q1), .second, .val (.int p2), .val (.long q3), .second, .val (.long q4), .second, .val (.long q5), .second, .val (.int p6), .val (.int (p2.toInt16.toInt32)), .val (.int j1_0), .val (.int (0 : Int32)), .val (.int j2_0), .val (.ref b3), .val (.ref b6), .val .null, .val (.ref b6), .unset]) rfl kt) ?_
        show Goes p e below s _ _ _ (T7.setTop (mkF m 116 #[.val (.long q1), .second, .val (.int p2), .val (.long q3), .second, .val (.long q4), .second, .val (.long q5), .second, .val (.int p6), .val (.int (p2.toInt16.toInt32)), .val (.int j1_0), .val (.int (0 : Int32)), .val (.int j2_0), .val (.ref b3), .val (.ref b6), .val .null, .val (.ref b6), .unset] []))
        obtain ⟨T9, h9, X9, e9, E9, A9, D9, U9, st9⟩ := newO X7 hx hZ hown (hw _ (List.mem_of_getElem? (i := 30) rfl)) (hw _ (List.mem_of_getElem? (i := 31) rfl)) (hw _ (List.mem_of_getElem? (i := 32) rfl)) e7 (g := (mkF m 116 #[.val (.long q1), .second, .val (.int p2), .val (.long q3), .second, .val (.long q4), .second, .val (.long q5), .second, .val (.int p6), .val (.int (p2.toInt16.toInt32)), .val (.int j1_0), .val (.int (0 : Int32)), .val (.int j2_0), .val (.ref b3), .val (.ref b6), .val .null, .val (.ref b6), .unset] [])) rfl (hb hby at_116) (by decide) (by decide)
        obtain ⟨b9, g9⟩ : ∃ z, z = h7.size := ⟨_, rfl⟩
        rw [← g9] at A9 D9 U9 st9
        have fc10 : Arv Z h7 b3 k3 .char (2 : Int32) [(.int (nar .char ((((p6.toUInt32 >>> ((8 : Int32) &&& 31).toUInt32).toInt32) &&& (255 : Int32)).toUInt32.toUInt16.toUInt32.toInt32))), (.int (nar .char ((((p6.toUInt32 >>> ((16 : Int32) &&& 31).toUInt32).toInt32) &&& (255 : Int32)).toUInt32.toUInt16.toUInt32.toInt32)))] (.int (0 : Int32)) := (fc8.keep Kq7 (ninS (Nat.ne_of_lt ltb3_6) nin0))
        have ltb3_9 : b3 < b9 := Nat.lt_of_lt_of_le fc10.lt (Nat.le_of_eq g9.symm)
        have fc11 : Exa Z h7 b6 "java/lang/String" := (A6.keep Kq7)
        have ltb6_9 : b6 < b9 := Nat.lt_of_lt_of_le fc11.lt (Nat.le_of_eq g9.symm)
        have ltt_7_9 : t_7 < b9 := Nat.lt_of_lt_of_le Aq7.lt (Nat.le_of_eq g9.symm)
        have gg9 : n0 ≤ b9 := Nat.le_trans Z7 (Nat.le_of_eq g9.symm)
        have Z9 : n0 ≤ h9.size := Nat.le_trans Z7 E9.1
        have Od9 := Od7.ext E9
        refine Goes.pre st9 ?_
        have Fn9_39 : Fld Z h9 b9 "com/example/seqlint/seqlint/kafka/Transaction" "epoch" "I" (.int (0 : Int32)) := D9 (Or.inl (hw _ (List.mem_of_getElem? (i := 39) rfl))) (ty := .int) (by decide)
        have Fn9_42 : Fld Z h9 b9 "com/example/seqlint/seqlint/kafka/Transaction" "lastTimestamp" "J" (.long (0 : Int64)) := D9 (Or.inl (hw _ (List.mem_of_getElem? (i := 42) rfl))) (ty := .long) (by decide)
        have Fn9_44 : Fld Z h9 b9 "com/example/seqlint/seqlint/kafka/Transaction" "producerId" "J" (.long (0 : Int64)) := D9 (Or.inr (hw _ (List.mem_of_getElem? (i := 44) rfl))) (ty := .long) (by decide)
        have Fn9_51 : Fld Z h9 b9 "com/example/seqlint/seqlint/kafka/Transaction" "open" "Z" (.int (0 : Int32)) := D9 (Or.inl (hw _ (List.mem_of_getElem? (i := 51) rfl))) (ty := .boolean) (by decide)
        have Fn9_53 : Fld Z h9 b9 "com/example/seqlint/seqlint/kafka/Transaction" "firstOffset" "J" (.long (0 : Int64)) := D9 (Or.inl (hw _ (List.mem_of_getElem? (i := 53) rfl))) (ty := .long) (by decide)
        have Fn9_55 : Fld Z h9 b9 "com/example/seqlint/seqlint/kafka/Transaction" "position" "J" (.long (0 : Int64)) := D9 (Or.inl (hw _ (List.mem_of_getElem? (i := 55) rfl))) (ty := .long) (by decide)
        have Fn9_57 : Fld Z h9 b9 "com/example/seqlint/seqlint/kafka/Transaction" "file" "Ljava/lang/String;" .null := D9 (Or.inl (hw _ (List.mem_of_getElem? (i := 57) rfl))) (ty := (.object "java/lang/String")) (by decide)
        have Fn9_59 : Fld Z h9 b9 "com/example/seqlint/seqlint/kafka/Transaction" "firstTimestamp" "J" (.long (0 : Int64)) := D9 (Or.inl (hw _ (List.mem_of_getElem? (i := 59) rfl))) (ty := .long) (by decide)
        have Fn9_61 : Fld Z h9 b9 "com/example/seqlint/seqlint/kafka/Transaction" "reported" "Z" (.int (0 : Int32)) := D9 (Or.inl (hw _ (List.mem_of_getElem? (i := 61) rfl))) (ty := .boolean) (by decide)
        show Goes p e below s _ _ _ (T9.setTop (mkF m 119 #[.val (.long q1), .second, .val (.int p2), .val (.long q3), .second, .val (.long q4), .second, .val (.long q5), .second, .val (.int p6), .val (.int (p2.toInt16.toInt32)), .val (.int j1_0), .val (.int (0 : Int32)), .val (.int j2_0), .val (.ref b3), .val (.ref b6), .val .null, .val (.ref b6), .unset] [(.ref b9)]))
        refine Goes.pre (fun t kt => XS.dup X9.here hx rfl (hb hby at_119) rfl rfl kt) ?_
        show Goes p e below s _ _ _ (T9.setTop (mkF m 120 #[.val (.long q1), .second, .val (.int p2), .val (.long q3), .second, .val (.long q4), .second, .val (.long q5), .second, .val (.int p6), .val (.int (p2.toInt16.toInt32)), .val (.int j1_0), .val (.int (0 : Int32)), .val (.int j2_0), .val (.ref b3), .val (.ref b6), .val .null, .val (.ref b6), .unset] [(.ref b9), (.ref b9)]))
        refine Goes.pre (fun t kt => XS.lloadN X9.here hx rfl (hb hby at_120) rfl kt) ?_
        show Goes p e below s _ _ _ (T9.setTop (mkF m 121 #[.val (.long q1), .second, .val (.int p2), .val (.long q3), .second, .val (.long q4), .second, .val (.long q5), .second, .val (.int p6), .val (.int (p2.toInt16.toInt32)), .val (.int j1_0), .val (.int (0 : Int32)), .val (.int j2_0), .val (.ref b3), .val (.ref b6), .val .null, .val (.ref b6), .unset] [(.long q1), (.ref b9), (.ref b9)]))
        obtain ⟨_, _, ⟨T12, L12, k12, n12⟩, -, X12, ⟨Lc12, hQ12, l12, y12, z12⟩, st12⟩ := X9.specialBack hx (y := (⟨"com/example/seqlint/seqlint/kafka/Transaction", "<init>", "(J)V"⟩ : MethodName)) rfl hown (mvT hZ (hw _ (List.mem_of_getElem? (i := 33) rfl))) (mvT hZ (hw _ (List.mem_of_getElem? (i := 34) rfl))) (mvT hZ (hw _ (List.mem_of_getElem? (i := 35) rfl))) (by decide) (backOf (W := 1) (rm7 l Z a0 hw [] b9 q1 (.int (0 : Int32)) (.long (0 : Int64)) (.long (0 : Int64)) .null (.long (0 : Int64)) (.int (0 : Int32)) (.int (0 : Int32)) (.long (0 : Int64)) (.long (0 : Int64)) h9 n0 Z9 A9 gg9 Fn9_51 Fn9_53 Fn9_55 Fn9_57 Fn9_59 Fn9_61 Fn9_39 Fn9_42 Fn9_44) hZ (hw _ (List.mem_of_getElem? (i := 35) rfl)) (hw _ (List.mem_of_getElem? (i := 32) rfl)) (by decide) (by decide)) (g := (mkF m 121 #[.val (.long q1), .second, .val (.int p2), .val (.long q3), .second, .val (.long q4), .second, .val (.long q5), .second, .val (.int p6), .val (.int (p2.toInt16.toInt32)), .val (.int j1_0), .val (.int (0 : Int32)), .val (.int j2_0), .val (.ref b3), .val (.ref b6), .val .null, .val (.ref b6), .unset] [(.long q1), (.ref b9), (.ref b9)])) rfl (by rw [hml]; rfl) (Steps.refl _) (a := b9) (argsL := [(.long q1)]) (rest := [(.ref b9)]) (lenOf pd_2 rfl) rfl (by show 2 * 0 + _ ≤ _; exact Nat.le_of_eq rfl) (hb hby at_121) (fun _ _ => ⟨rfl, e9, (by decide : 4 + 0 ≤ _), (by decide : 17 + 0 ≤ _)⟩)
        dsimp only [Pt.U, Pt.locs, Pt.cells, Pt.slots] at X12 l12 y12 z12 st12 hQ12
        subst l12 y12 z12
        obtain ⟨rfl, Nq12, Kq12, pq12_0, pq12_1, pq12_2, pq12_3, pq12_4, pq12_5, pq12_6⟩ := hQ12
        refine Goes.run st12 ?_
        have N12 := Fr.app N7 Nq12
        obtain ⟨h12, e12⟩ : ∃ z, T12.heap = z := ⟨_, rfl⟩
        rw [e12] at Kq12 pq12_0 pq12_1 pq12_2 pq12_3 pq12_4 pq12_5 pq12_6
        have Z12 : n0 ≤ h12.size := Nat.le_trans Z9 Kq12.1
        have Od12 := Od9.keep Kq12 (allS gg9 all0)
        show Goes p e below s _ _ _ (T12.setTop (mkF m 124 #[.val (.long q1), .second, .val (.int p2), .val (.long q3), .second, .val (.long q4), .second, .val (.long q5), .second, .val (.int p6), .val (.int (p2.toInt16.toInt32)), .val (.int j1_0), .val (.int (0 : Int32)), .val (.int j2_0), .val (.ref b3), .val (.ref b6), .val .null, .val (.ref b6), .unset] [(.ref b9)]))
        refine Goes.pre (fun t kt => XS.astore X12.here hx rfl (hb hby at_124) rfl rfl (l' := #[.val (.long q1), .second, .val (.int p2), .val (.long q3), .second, .val (.long q4), .second, .val (.long q5), .second, .val (.int p6), .val (.int (p2.toInt16.toInt32)), .val (.int j1_0), .val (.int (0 : Int32)), .val (.int j2_0), .val (.ref b3), .val (.ref b6), .val .null, .val (.ref b6), .val (.ref b9)]) rfl kt) ?_
        show Goes p e below s _ _ _ (T12.setTop (mkF m 126 #[.val (.long q1), .second, .val (.int p2), .val (.long q3), .second, .val (.long q4), .second, .val (.long q5), .second, .val (.int p6), .val (.int (p2.toInt16.toInt32)), .val (.int j1_0), .val (.int (0 : Int32)), .val (.int j2_0), .val (.ref b3), .val (.ref b6), .val .null, .val (.ref b6), .val (.ref b9)] []))
        refine Goes.pre (fun t kt => XS.iload X12.here hx rfl (hb hby at_126) rfl kt) ?_
        show Goes p e below s _ _ _ (T12.setTop (mkF m 128 #[.val (.long q1), .second, .val (.int p2), .val (.long q3), .second, .val (.long q4), .second, .val (.long q5), .second, .val (.int p6), .val (.int (p2.toInt16.toInt32)), .val (.int j1_0), .val (.int (0 : Int32)), .val (.int j2_0), .val (.ref b3), .val (.ref b6), .val .null, .val (.ref b6), .val (.ref b9)] [(.int j2_0)]))
        by_cases hc128 : j2_0 = (0 : Int32)
        · refine Goes.pre (fun t kt => XS.ifYes X12.here hx rfl (pc0 := 128) (pc' := 169) rfl (hb hby at_128) rfl (Jvm.Free.XT.i0_eq_t (hc128)) (by decide) (by decide) kt) ?_
          show Goes p e below s _ _ _ (T12.setTop (mkF m 169 #[.val (.long q1), .second, .val (.int p2), .val (.long q3), .second, .val (.long q4), .second, .val (.long q5), .second, .val (.int p6), .val (.int (p2.toInt16.toInt32)), .val (.int j1_0), .val (.int (0 : Int32)), .val (.int j2_0), .val (.ref b3), .val (.ref b6), .val .null, .val (.ref b6), .val (.ref b9)] []))
          refine Goes.pre (fun t kt => XS.aload X12.here hx rfl (hb hby at_169) rfl rfl kt) ?_
          show Goes p e below s _ _ _ (T12.setTop (mkF m 171 #[.val (.long q1), .second, .val (.int p2), .val (.long q3), .second, .val (.long q4), .second, .val (.long q5), .second, .val (.int p6), .val (.int (p2.toInt16.toInt32)), .val (.int j1_0), .val (.int (0 : Int32)), .val (.int j2_0), .val (.ref b3), .val (.ref b6), .val .null, .val (.ref b6), .val (.ref b9)] [(.ref b9)]))
          refine Goes.pre (fun t kt => XS.iload X12.here hx rfl (hb hby at_171) rfl kt) ?_
          show Goes p e below s _ _ _ (T12.setTop (mkF m 173 #[.val (.long q1), .second, .val (.int p2), .val (.long q3), .second, .val (.long q4), .second, .val (.long q5), .second, .val (.int p6), .val (.int (p2.toInt16.toInt32)), .val (.int j1_0), .val (.int (0 : Int32)), .val (.int j2_0), .val (.ref b3), .val (.ref b6), .val .null, .val (.ref b6), .val (.ref b9)] [(.int (p2.toInt16.toInt32)), (.ref b9)]))
          refine Goes.pre (fun t kt => XS.lloadN X12.here hx rfl (hb hby at_173) rfl kt) ?_
          show Goes p e below s _ _ _ (T12.setTop (mkF m 174 #[.val (.long q1), .second, .val (.int p2), .val (.long q3), .second, .val (.long q4), .second, .val (.long q5), .second, .val (.int p6), .val (.int (p2.toInt16.toInt32)), .val (.int j1_0), .val (.int (0 : Int32)), .val (.int j2_0), .val (.ref b3), .val (.ref b6), .val .null, .val (.ref b6), .val (.ref b9)] [(.long q3), (.int (p2.toInt16.toInt32)), (.ref b9)]))
          refine Goes.pre (fun t kt => XS.lload X12.here hx rfl (hb hby at_174) rfl kt) ?_
          show Goes p e below s _ _ _ (T12.setTop (mkF m 176 #[.val (.long q1), .second, .val (.int p2), .val (.long q3), .second, .val (.long q4), .second, .val (.long q5), .second, .val (.int p6), .val (.int (p2.toInt16.toInt32)), .val (.int j1_0), .val (.int (0 : Int32)), .val (.int j2_0), .val (.ref b3), .val (.ref b6), .val .null, .val (.ref b6), .val (.ref b9)] [(.long q4), (.long q3), (.int (p2.toInt16.toInt32)), (.ref b9)]))
          refine Goes.pre (fun t kt => XS.aload X12.here hx rfl (hb hby at_176) rfl rfl kt) ?_
          show Goes p e below s _ _ _ (T12.setTop (mkF m 178 #[.val (.long q1), .second, .val (.int p2), .val (.long q3), .second, .val (.long q4), .second, .val (.long q5), .second, .val (.int p6), .val (.int (p2.toInt16.toInt32)), .val (.int j1_0), .val (.int (0 : Int32)), .val (.int j2_0), .val (.ref b3), .val (.ref b6), .val .null, .val (.ref b6), .val (.ref b9)] [.null, (.long q4), (.long q3), (.int (p2.toInt16.toInt32)), (.ref b9)]))
          refine Goes.pre (fun t kt => XS.lload X12.here hx rfl (hb hby at_178) rfl kt) ?_
          show Goes p e below s _ _ _ (T12.setTop (mkF m 180 #[.val (.long q1), .second, .val (.int p2), .val (.long q3), .second, .val (.long q4), .second, .val (.long q5), .second, .val (.int p6), .val (.int (p2.toInt16.toInt32)), .val (.int j1_0), .val (.int (0 : Int32)), .val (.int j2_0), .val (.ref b3), .val (.ref b6), .val .null, .val (.ref b6), .val (.ref b9)] [(.long q5), .null, (.long q4), (.long q3), (.int (p2.toInt16.toInt32)), (.ref b9)]))
          refine Goes.pre (fun t kt => XS.iload X12.here hx rfl (hb hby at_180) rfl kt) ?_
          show Goes p e below s _ _ _ (T12.setTop (mkF m 182 #[.val (.long q1), .second, .val (.int p2), .val (.long q3), .second, .val (.long q4), .second, .val (.long q5), .second, .val (.int p6), .val (.int (p2.toInt16.toInt32)), .val (.int j1_0), .val (.int (0 : Int32)), .val (.int j2_0), .val (.ref b3), .val (.ref b6), .val .null, .val (.ref b6), .val (.ref b9)] [(.int j1_0), (.long q5), .null, (.long q4), (.long q3), (.int (p2.toInt16.toInt32)), (.ref b9)]))
          have fc13 : Exa Z h12 b9 "com/example/seqlint/seqlint/kafka/Transaction" := (A9.keep Kq12)
          obtain ⟨cq15, kq15, qa15, qb15, qc15⟩ := isOf hZ e12 fc13
          obtain ⟨_, _, ⟨T14, L14, k14, n14⟩, -, X14, ⟨Lc14, hQ14, l14, y14, z14⟩, st14⟩ := X12.virtualBack hx (y := (⟨"com/example/seqlint/seqlint/kafka/Transaction", "open", "(SJJLjava/lang/String;JZ)V"⟩ : MethodName)) (z := (⟨"com/example/seqlint/seqlint/kafka/Transaction", "open", "(SJJLjava/lang/String;JZ)V"⟩ : MethodName)) hown (mvT hZ (hw _ (List.mem_of_getElem? (i := 45) rfl))) (mvT hZ (hw _ (List.mem_of_getElem? (i := 46) rfl))) (notFace_of_selects (args := #[]) (mvT hZ (hw _ (List.mem_of_getElem? (i := 48) rfl)))) (mvT hZ (hw _ (List.mem_of_getElem? (i := 48) rfl))) (mvT hZ (hw _ (List.mem_of_getElem? (i := 47) rfl))) (by decide) (backOf (W := 0) (rm8n l Z a0 hw [] b9 (p2.toInt16.toInt32) q3 q4 q5 j1_0 (.int (0 : Int32)) (.int (-2147483648 : Int32)) (.long (0 : Int64)) (.long (0 : Int64)) .null (.long (0 : Int64)) (.int (0 : Int32)) h12 n0 Z12 fc13 gg9 pq12_1 pq12_0 pq12_2 pq12_3 pq12_4 pq12_5 pq12_6) hZ (hw _ (List.mem_of_getElem? (i := 49) rfl)) (hw _ (List.mem_of_getElem? (i := 32) rfl)) (by decide) (by decide)) qa15 qc15 (g := (mkF m 182 #[.val (.long q1), .second, .val (.int p2), .val (.long q3), .second, .val (.long q4), .second, .val (.long q5), .second, .val (.int p6), .val (.int (p2.toInt16.toInt32)), .val (.int j1_0), .val (.int (0 : Int32)), .val (.int j2_0), .val (.ref b3), .val (.ref b6), .val .null, .val (.ref b6), .val (.ref b9)] [(.int j1_0), (.long q5), .null, (.long q4), (.long q3), (.int (p2.toInt16.toInt32)), (.ref b9)])) rfl (by rw [hml]; rfl) (Steps.refl _) (argsL := [(.int (p2.toInt16.toInt32)), (.long q3), (.long q4), .null, (.long q5), (.int j1_0)]) (rest := []) (lenOf pd_3 rfl) rfl (by show 2 * 0 + _ ≤ _; exact Nat.le_of_eq rfl) (hb hby at_182) (fun _ _ => ⟨rfl, e12, (by decide : 4 + 0 ≤ _), (by decide : 17 + 0 ≤ _)⟩)
          dsimp only [Pt.U, Pt.locs, Pt.cells, Pt.slots] at X14 l14 y14 z14 st14 hQ14
          subst l14 y14 z14
          obtain ⟨rfl, Nq14, Kq14, pq14_0, pq14_1, pq14_2, pq14_3, pq14_4, pq14_5, pq14_6⟩ := hQ14
          refine Goes.run st14 ?_
          have N14 := Fr.app N12 Nq14
          obtain ⟨h14, e14⟩ : ∃ z, T14.heap = z := ⟨_, rfl⟩
          rw [e14] at Kq14 pq14_0 pq14_1 pq14_2 pq14_3 pq14_4 pq14_5 pq14_6
          have Z14 : n0 ≤ h14.size := Nat.le_trans Z12 Kq14.1
          have Od14 := Od12.keep Kq14 (allS gg9 all0)
          show Goes p e below s _ _ _ (T14.setTop (mkF m 185 #[.val (.long q1), .second, .val (.int p2), .val (.long q3), .second, .val (.long q4), .second, .val (.long q5), .second, .val (.int p6), .val (.int (p2.toInt16.toInt32)), .val (.int j1_0), .val (.int (0 : Int32)), .val (.int j2_0), .val (.ref b3), .val (.ref b6), .val .null, .val (.ref b6), .val (.ref b9)] []))
          refine Goes.pre (fun t kt => XS.aload X14.here hx rfl (hb hby at_185) rfl rfl kt) ?_
          show Goes p e below s _ _ _ (T14.setTop (mkF m 187 #[.val (.long q1), .second, .val (.int p2), .val (.long q3), .second, .val (.long q4), .second, .val (.long q5), .second, .val (.int p6), .val (.int (p2.toInt16.toInt32)), .val (.int j1_0), .val (.int (0 : Int32)), .val (.int j2_0), .val (.ref b3), .val (.ref b6), .val .null, .val (.ref b6), .val (.ref b9)] [(.ref b9)]))
          have fc18 : Exa Z h14 b9 "com/example/seqlint/seqlint/kafka/Transaction" := (fc13.keep Kq14)
          obtain ⟨cq17, kq17, qa17, qb17, qc17⟩ := isOf hZ e14 fc18
          obtain ⟨_, _, ⟨T16, L16, k16, n16⟩, -, X16, ⟨Lc16, hQ16, l16, y16, z16⟩, st16⟩ := X14.virtualBack hx (y := (⟨"com/example/seqlint/seqlint/kafka/Transaction", "isOpen", "()Z"⟩ : MethodName)) (z := (⟨"com/example/seqlint/seqlint/kafka/Transaction", "isOpen", "()Z"⟩ : MethodName)) hown (mvT hZ (hw _ (List.mem_of_getElem? (i := 62) rfl))) (mvT hZ (hw _ (List.mem_of_getElem? (i := 63) rfl))) (notFace_of_selects (args := #[]) (mvT hZ (hw _ (List.mem_of_getElem? (i := 65) rfl)))) (mvT hZ (hw _ (List.mem_of_getElem? (i := 65) rfl))) (mvT hZ (hw _ (List.mem_of_getElem? (i := 64) rfl))) (by decide) (backOf (W := 0) (rm9 l Z a0 hw [] b9 h14 n0 Z14 pq14_0) hZ (hw _ (List.mem_of_getElem? (i := 66) rfl)) (hw _ (List.mem_of_getElem? (i := 32) rfl)) (by decide) (by decide)) qa17 qc17 (g := (mkF m 187 #[.val (.long q1), .second, .val (.int p2), .val (.long q3), .second, .val (.long q4), .second, .val (.long q5), .second, .val (.int p6), .val (.int (p2.toInt16.toInt32)), .val (.int j1_0), .val (.int (0 : Int32)), .val (.int j2_0), .val (.ref b3), .val (.ref b6), .val .null, .val (.ref b6), .val (.ref b9)] [(.ref b9)])) rfl (by rw [hml]; rfl) (Steps.refl _) (argsL := []) (rest := []) (lenOf pd_4 rfl) rfl (by show 2 * 0 + _ ≤ _; exact Nat.le_of_eq rfl) (hb hby at_187) (fun _ _ => ⟨rfl, e14, (by decide : 4 + 0 ≤ _), (by decide : 17 + 0 ≤ _)⟩)
          dsimp only [Pt.U, Pt.locs, Pt.cells, Pt.slots] at X16 l16 y16 z16 st16 hQ16
          subst l16 y16 z16
          obtain ⟨rfl, Nq16, eq16⟩ := hQ16
          refine Goes.run st16 ?_
          have N16 := Fr.app N14 Nq16
          show Goes p e below s _ _ _ (T16.setTop (mkF m 190 #[.val (.long q1), .second, .val (.int p2), .val (.long q3), .second, .val (.long q4), .second, .val (.long q5), .second, .val (.int p6), .val (.int (p2.toInt16.toInt32)), .val (.int j1_0), .val (.int (0 : Int32)), .val (.int j2_0), .val (.ref b3), .val (.ref b6), .val .null, .val (.ref b6), .val (.ref b9)] [(.int (1 : Int32))]))
          refine Goes.pre (fun t kt => XS.ifNo X16.here hx rfl (hb hby at_190) rfl (Jvm.Free.XT.i0_eq_f ((by decide))) kt) ?_
          show Goes p e below s _ _ _ (T16.setTop (mkF m 193 #[.val (.long q1), .second, .val (.int p2), .val (.long q3), .second, .val (.long q4), .second, .val (.long q5), .second, .val (.int p6), .val (.int (p2.toInt16.toInt32)), .val (.int j1_0), .val (.int (0 : Int32)), .val (.int j2_0), .val (.ref b3), .val (.ref b6), .val .null, .val (.ref b6), .val (.ref b9)] []))
          refine Goes.pre (fun t kt => XS.aload X16.here hx rfl (hb hby at_193) rfl rfl kt) ?_
          show Goes p e below s _ _ _ (T16.setTop (mkF m 195 #[.val (.long q1), .second, .val (.int p2), .val (.long q3), .second, .val (.long q4), .second, .val (.long q5), .second, .val (.int p6), .val (.int (p2.toInt16.toInt32)), .val (.int j1_0), .val (.int (0 : Int32)), .val (.int j2_0), .val (.ref b3), .val (.ref b6), .val .null, .val (.ref b6), .val (.ref b9)] [(.ref b9)]))
          obtain ⟨cq20, kq20, qa20, qb20, qc20⟩ := isOf hZ eq16 fc18
          obtain ⟨_, _, ⟨T19, L19, k19, n19⟩, -, X19, ⟨Lc19, hQ19, l19, y19, z19⟩, st19⟩ := X16.virtualBack hx (y := (⟨"com/example/seqlint/seqlint/kafka/Transaction", "epoch", "()S"⟩ : MethodName)) (z := (⟨"com/example/seqlint/seqlint/kafka/Transaction", "epoch", "()S"⟩ : MethodName)) hown (mvT hZ (hw _ (List.mem_of_getElem? (i := 67) rfl))) (mvT hZ (hw _ (List.mem_of_getElem? (i := 68) rfl))) (notFace_of_selects (args := #[]) (mvT hZ (hw _ (List.mem_of_getElem? (i := 70) rfl)))) (mvT hZ (hw _ (List.mem_of_getElem? (i := 70) rfl))) (mvT hZ (hw _ (List.mem_of_getElem? (i := 69) rfl))) (by decide) (backOf (W := 0) (rm10 l Z a0 hw [] b9 (p2.toInt16.toInt32) h14 n0 Z14 pq14_1) hZ (hw _ (List.mem_of_getElem? (i := 71) rfl)) (hw _ (List.mem_of_getElem? (i := 32) rfl)) (by decide) (by decide)) qa20 qc20 (g := (mkF m 195 #[.val (.long q1), .second, .val (.int p2), .val (.long q3), .second, .val (.long q4), .second, .val (.long q5), .second, .val (.int p6), .val (.int (p2.toInt16.toInt32)), .val (.int j1_0), .val (.int (0 : Int32)), .val (.int j2_0), .val (.ref b3), .val (.ref b6), .val .null, .val (.ref b6), .val (.ref b9)] [(.ref b9)])) rfl (by rw [hml]; rfl) (Steps.refl _) (argsL := []) (rest := []) (lenOf pd_5 rfl) rfl (by show 2 * 0 + _ ≤ _; exact Nat.le_of_eq rfl) (hb hby at_195) (fun _ _ => ⟨rfl, eq16, (by decide : 4 + 0 ≤ _), (by decide : 17 + 0 ≤ _)⟩)
          dsimp only [Pt.U, Pt.locs, Pt.cells, Pt.slots] at X19 l19 y19 z19 st19 hQ19
          subst l19 y19 z19
          obtain ⟨rfl, Nq19, eq19⟩ := hQ19
          refine Goes.run st19 ?_
          have N19 := Fr.app N16 Nq19
          show Goes p e below s _ _ _ (T19.setTop (mkF m 198 #[.val (.long q1), .second, .val (.int p2), .val (.long q3), .second, .val (.long q4), .second, .val (.long q5), .second, .val (.int p6), .val (.int (p2.toInt16.toInt32)), .val (.int j1_0), .val (.int (0 : Int32)), .val (.int j2_0), .val (.ref b3), .val (.ref b6), .val .null, .val (.ref b6), .val (.ref b9)] [(.int (((p2.toInt16.toInt32).toInt16.toInt32).toInt16.toInt32))]))
          refine Goes.pre (fun t kt => XS.iload X19.here hx rfl (hb hby at_198) rfl kt) ?_
          show Goes p e below s _ _ _ (T19.setTop (mkF m 200 #[.val (.long q1), .second, .val (.int p2), .val (.long q3), .second, .val (.long q4), .second, .val (.long q5), .second, .val (.int p6), .val (.int (p2.toInt16.toInt32)), .val (.int j1_0), .val (.int (0 : Int32)), .val (.int j2_0), .val (.ref b3), .val (.ref b6), .val .null, .val (.ref b6), .val (.ref b9)] [(.int (p2.toInt16.toInt32)), (.int (((p2.toInt16.toInt32).toInt16.toInt32).toInt16.toInt32))]))
          refine Goes.pre (fun t kt => XS.icmpNo X19.here hx rfl (hb hby at_200) rfl (Jvm.Free.XT.ii_ne_f ((own_short _))) kt) ?_
          show Goes p e below s _ _ _ (T19.setTop (mkF m 203 #[.val (.long q1), .second, .val (.int p2), .val (.long q3), .second, .val (.long q4), .second, .val (.long q5), .second, .val (.int p6), .val (.int (p2.toInt16.toInt32)), .val (.int j1_0), .val (.int (0 : Int32)), .val (.int j2_0), .val (.ref b3), .val (.ref b6), .val .null, .val (.ref b6), .val (.ref b9)] []))
          refine Goes.pre (fun t kt => XS.aload X19.here hx rfl (hb hby at_203) rfl rfl kt) ?_
          show Goes p e below s _ _ _ (T19.setTop (mkF m 205 #[.val (.long q1), .second, .val (.int p2), .val (.long q3), .second, .val (.long q4), .second, .val (.long q5), .second, .val (.int p6), .val (.int (p2.toInt16.toInt32)), .val (.int j1_0), .val (.int (0 : Int32)), .val (.int j2_0), .val (.ref b3), .val (.ref b6), .val .null, .val (.ref b6), .val (.ref b9)] [(.ref b9)]))
          obtain ⟨cq22, kq22, qa22, qb22, qc22⟩ := isOf hZ eq19 fc18
          obtain ⟨_, _, ⟨T21, L21, k21, n21⟩, -, X21, ⟨Lc21, hQ21, l21, y21, z21⟩, st21⟩ := X19.virtualBack hx (y := (⟨"com/example/seqlint/seqlint/kafka/Transaction", "hasEpoch", "()Z"⟩ : MethodName)) (z := (⟨"com/example/seqlint/seqlint/kafka/Transaction", "hasEpoch", "()Z"⟩ : MethodName)) hown (mvT hZ (hw _ (List.mem_of_getElem? (i := 72) rfl))) (mvT hZ (hw _ (List.mem_of_getElem? (i := 73) rfl))) (notFace_of_selects (args := #[]) (mvT hZ (hw _ (List.mem_of_getElem? (i := 75) rfl)))) (mvT hZ (hw _ (List.mem_of_getElem? (i := 75) rfl))) (mvT hZ (hw _ (List.mem_of_getElem? (i := 74) rfl))) (by decide) (backOf (W := 0) (rm11 l Z a0 hw [] b9 (p2.toInt16.toInt32) h14 n0 Z14 pq14_1 (own_noMin _)) hZ (hw _ (List.mem_of_getElem? (i := 76) rfl)) (hw _ (List.mem_of_getElem? (i := 32) rfl)) (by decide) (by decide)) qa22 qc22 (g := (mkF m 205 #[.val (.long q1), .second, .val (.int p2), .val (.long q3), .second, .val (.long q4), .second, .val (.long q5), .second, .val (.int p6), .val (.int (p2.toInt16.toInt32)), .val (.int j1_0), .val (.int (0 : Int32)), .val (.int j2_0), .val (.ref b3), .val (.ref b6), .val .null, .val (.ref b6), .val (.ref b9)] [(.ref b9)])) rfl (by rw [hml]; rfl) (Steps.refl _) (argsL := []) (rest := []) (lenOf pd_4 rfl) rfl (by show 2 * 0 + _ ≤ _; exact Nat.le_of_eq rfl) (hb hby at_205) (fun _ _ => ⟨rfl, eq19, (by decide : 4 + 0 ≤ _), (by decide : 17 + 0 ≤ _)⟩)
          dsimp only [Pt.U, Pt.locs, Pt.cells, Pt.slots] at X21 l21 y21 z21 st21 hQ21
          subst l21 y21 z21
          obtain ⟨rfl, Nq21, eq21⟩ := hQ21
          refine Goes.run st21 ?_
          have N21 := Fr.app N19 Nq21
          show Goes p e below s _ _ _ (T21.setTop (mkF m 208 #[.val (.long q1), .second, .val (.int p2), .val (.long q3), .second, .val (.long q4), .second, .val (.long q5), .second, .val (.int p6), .val (.int (p2.toInt16.toInt32)), .val (.int j1_0), .val (.int (0 : Int32)), .val (.int j2_0), .val (.ref b3), .val (.ref b6), .val .null, .val (.ref b6), .val (.ref b9)] [(.int (1 : Int32))]))
          refine Goes.pre (fun t kt => XS.ifNo X21.here hx rfl (hb hby at_208) rfl (Jvm.Free.XT.i0_eq_f ((by decide))) kt) ?_
          show Goes p e below s _ _ _ (T21.setTop (mkF m 211 #[.val (.long q1), .second, .val (.int p2), .val (.long q3), .second, .val (.long q4), .second, .val (.long q5), .second, .val (.int p6), .val (.int (p2.toInt16.toInt32)), .val (.int j1_0), .val (.int (0 : Int32)), .val (.int j2_0), .val (.ref b3), .val (.ref b6), .val .null, .val (.ref b6), .val (.ref b9)] []))
          refine Goes.pre (fun t kt => XS.aload X21.here hx rfl (hb hby at_211) rfl rfl kt) ?_
          show Goes p e below s _ _ _ (T21.setTop (mkF m 213 #[.val (.long q1), .second, .val (.int p2), .val (.long q3), .second, .val (.long q4), .second, .val (.long q5), .second, .val (.int p6), .val (.int (p2.toInt16.toInt32)), .val (.int j1_0), .val (.int (0 : Int32)), .val (.int j2_0), .val (.ref b3), .val (.ref b6), .val .null, .val (.ref b6), .val (.ref b9)] [(.ref b9)]))
          obtain ⟨cq24, kq24, qa24, qb24, qc24⟩ := isOf hZ eq21 fc18
          obtain ⟨_, _, ⟨T23, L23, k23, n23⟩, -, X23, ⟨Lc23, hQ23, l23, y23, z23⟩, st23⟩ := X21.virtualBack hx (y := (⟨"com/example/seqlint/seqlint/kafka/Transaction", "firstOffset", "()J"⟩ : MethodName)) (z := (⟨"com/example/seqlint/seqlint/kafka/Transaction", "firstOffset", "()J"⟩ : MethodName)) hown (mvT hZ (hw _ (List.mem_of_getElem? (i := 77) rfl))) (mvT hZ (hw _ (List.mem_of_getElem? (i := 78) rfl))) (notFace_of_selects (args := #[]) (mvT hZ (hw _ (List.mem_of_getElem? (i := 80) rfl)))) (mvT hZ (hw _ (List.mem_of_getElem? (i := 80) rfl))) (mvT hZ (hw _ (List.mem_of_getElem? (i := 79) rfl))) (by decide) (backOf (W := 0) (rm12 l Z a0 hw [] b9 q3 h14 n0 Z14 pq14_2) hZ (hw _ (List.mem_of_getElem? (i := 81) rfl)) (hw _ (List.mem_of_getElem? (i := 32) rfl)) (by decide) (by decide)) qa24 qc24 (g := (mkF m 213 #[.val (.long q1), .second, .val (.int p2), .val (.long q3), .second, .val (.long q4), .second, .val (.long q5), .second, .val (.int p6), .val (.int (p2.toInt16.toInt32)), .val (.int j1_0), .val (.int (0 : Int32)), .val (.int j2_0), .val (.ref b3), .val (.ref b6), .val .null, .val (.ref b6), .val (.ref b9)] [(.ref b9)])) rfl (by rw [hml]; rfl) (Steps.refl _) (argsL := []) (rest := []) (lenOf pd_6 rfl) rfl (by show 2 * 0 + _ ≤ _; exact Nat.le_of_eq rfl) (hb hby at_213) (fun _ _ => ⟨rfl, eq21, (by decide : 4 + 0 ≤ _), (by decide : 17 + 0 ≤ _)⟩)
          dsimp only [Pt.U, Pt.locs, Pt.cells, Pt.slots] at X23 l23 y23 z23 st23 hQ23
          subst l23 y23 z23
          obtain ⟨rfl, Nq23, eq23⟩ := hQ23
          refine Goes.run st23 ?_
          have N23 := Fr.app N21 Nq23
          show Goes p e below s _ _ _ (T23.setTop (mkF m 216 #[.val (.long q1), .second, .val (.int p2), .val (.long q3), .second, .val (.long q4), .second, .val (.long q5), .second, .val (.int p6), .val (.int (p2.toInt16.toInt32)), .val (.int j1_0), .val (.int (0 : Int32)), .val (.int j2_0), .val (.ref b3), .val (.ref b6), .val .null, .val (.ref b6), .val (.ref b9)] [(.long q3)]))
          refine Goes.pre (fun t kt => XS.lloadN X23.here hx rfl (hb hby at_216) rfl kt) ?_
          show Goes p e below s _ _ _ (T23.setTop (mkF m 217 #[.val (.long q1), .second, .val (.int p2), .val (.long q3), .second, .val (.long q4), .second, .val (.long q5), .second, .val (.int p6), .val (.int (p2.toInt16.toInt32)), .val (.int j1_0), .val (.int (0 : Int32)), .val (.int j2_0), .val (.ref b3), .val (.ref b6), .val .null, .val (.ref b6), .val (.ref b9)] [(.long q3), (.long q3)]))
          refine Goes.pre (fun t kt => XS.lcmp X23.here hx rfl (hb hby at_217) rfl kt) ?_
          show Goes p e below s _ _ _ (T23.setTop (mkF m 218 #[.val (.long q1), .second, .val (.int p2), .val (.long q3), .second, .val (.long q4), .second, .val (.long q5), .second, .val (.int p6), .val (.int (p2.toInt16.toInt32)), .val (.int j1_0), .val (.int (0 : Int32)), .val (.int j2_0), .val (.ref b3), .val (.ref b6), .val .null, .val (.ref b6), .val (.ref b9)] [(.int (lcmpW q3 q3))]))
          refine Goes.pre (fun t kt => XS.ifNo X23.here hx rfl (hb hby at_218) rfl (Jvm.Free.XT.i0_ne_f ((lw_eq _ _).mpr rfl)) kt) ?_
          show Goes p e below s _ _ _ (T23.setTop (mkF m 221 #[.val (.long q1), .second, .val (.int p2), .val (.long q3), .second, .val (.long q4), .second, .val (.long q5), .second, .val (.int p6), .val (.int (p2.toInt16.toInt32)), .val (.int j1_0), .val (.int (0 : Int32)), .val (.int j2_0), .val (.ref b3), .val (.ref b6), .val .null, .val (.ref b6), .val (.ref b9)] []))
          refine Goes.pre (fun t kt => XS.aload X23.here hx rfl (hb hby at_221) rfl rfl kt) ?_
          show Goes p e below s _ _ _ (T23.setTop (mkF m 223 #[.val (.long q1), .second, .val (.int p2), .val (.long q3), .second, .val (.long q4), .second, .val (.long q5), .second, .val (.int p6), .val (.int (p2.toInt16.toInt32)), .val (.int j1_0), .val (.int (0 : Int32)), .val (.int j2_0), .val (.ref b3), .val (.ref b6), .val .null, .val (.ref b6), .val (.ref b9)] [(.ref b9)]))
          obtain ⟨cq26, kq26, qa26, qb26, qc26⟩ := isOf hZ eq23 fc18
          obtain ⟨_, _, ⟨T25, L25, k25, n25⟩, -, X25, ⟨Lc25, hQ25, l25, y25, z25⟩, st25⟩ := X23.virtualBack hx (y := (⟨"com/example/seqlint/seqlint/kafka/Transaction", "position", "()J"⟩ : MethodName)) (z := (⟨"com/example/seqlint/seqlint/kafka/Transaction", "position", "()J"⟩ : MethodName)) hown (mvT hZ (hw _ (List.mem_of_getElem? (i := 82) rfl))) (mvT hZ (hw _ (List.mem_of_getElem? (i := 83) rfl))) (notFace_of_selects (args := #[]) (mvT hZ (hw _ (List.mem_of_getElem? (i := 85) rfl)))) (mvT hZ (hw _ (List.mem_of_getElem? (i := 85) rfl))) (mvT hZ (hw _ (List.mem_of_getElem? (i := 84) rfl))) (by decide) (backOf (W := 0) (rm13 l Z a0 hw [] b9 q4 h14 n0 Z14 pq14_3) hZ (hw _ (List.mem_of_getElem? (i := 86) rfl)) (hw _ (List.mem_of_getElem? (i := 32) rfl)) (by decide) (by decide)) qa26 qc26 (g := (mkF m 223 #[.val (.long q1), .second, .val (.int p2), .val (.long q3), .second, .val (.long q4), .second, .val (.long q5), .second, .val (.int p6), .val (.int (p2.toInt16.toInt32)), .val (.int j1_0), .val (.int (0 : Int32)), .val (.int j2_0), .val (.ref b3), .val (.ref b6), .val .null, .val (.ref b6), .val (.ref b9)] [(.ref b9)])) rfl (by rw [hml]; rfl) (Steps.refl _) (argsL := []) (rest := []) (lenOf pd_6 rfl) rfl (by show 2 * 0 + _ ≤ _; exact Nat.le_of_eq rfl) (hb hby at_223) (fun _ _ => ⟨rfl, eq23, (by decide : 4 + 0 ≤ _), (by decide : 17 + 0 ≤ _)⟩)
          dsimp only [Pt.U, Pt.locs, Pt.cells, Pt.slots] at X25 l25 y25 z25 st25 hQ25
          subst l25 y25 z25
          obtain ⟨rfl, Nq25, eq25⟩ := hQ25
          refine Goes.run st25 ?_
          have N25 := Fr.app N23 Nq25
          show Goes p e below s _ _ _ (T25.setTop (mkF m 226 #[.val (.long q1), .second, .val (.int p2), .val (.long q3), .second, .val (.long q4), .second, .val (.long q5), .second, .val (.int p6), .val (.int (p2.toInt16.toInt32)), .val (.int j1_0), .val (.int (0 : Int32)), .val (.int j2_0), .val (.ref b3), .val (.ref b6), .val .null, .val (.ref b6), .val (.ref b9)] [(.long q4)]))
          refine Goes.pre (fun t kt => XS.lload X25.here hx rfl (hb hby at_226) rfl kt) ?_
          show Goes p e below s _ _ _ (T25.setTop (mkF m 228 #[.val (.long q1), .second, .val (.int p2), .val (.long q3), .second, .val (.long q4), .second, .val (.long q5), .second, .val (.int p6), .val (.int (p2.toInt16.toInt32)), .val (.int j1_0), .val (.int (0 : Int32)), .val (.int j2_0), .val (.ref b3), .val (.ref b6), .val .null, .val (.ref b6), .val (.ref b9)] [(.long q4), (.long q4)]))
          refine Goes.pre (fun t kt => XS.lcmp X25.here hx rfl (hb hby at_228) rfl kt) ?_
          show Goes p e below s _ _ _ (T25.setTop (mkF m 229 #[.val (.long q1), .second, .val (.int p2), .val (.long q3), .second, .val (.long q4), .second, .val (.long q5), .second, .val (.int p6), .val (.int (p2.toInt16.toInt32)), .val (.int j1_0), .val (.int (0 : Int32)), .val (.int j2_0), .val (.ref b3), .val (.ref b6), .val .null, .val (.ref b6), .val (.ref b9)] [(.int (lcmpW q4 q4))]))
          refine Goes.pre (fun t kt => XS.ifNo X25.here hx rfl (hb hby at_229) rfl (Jvm.Free.XT.i0_ne_f ((lw_eq _ _).mpr rfl)) kt) ?_
          show Goes p e below s _ _ _ (T25.setTop (mkF m 232 #[.val (.long q1), .second, .val (.int p2), .val (.long q3), .second, .val (.long q4), .second, .val (.long q5), .second, .val (.int p6), .val (.int (p2.toInt16.toInt32)), .val (.int j1_0), .val (.int (0 : Int32)), .val (.int j2_0), .val (.ref b3), .val (.ref b6), .val .null, .val (.ref b6), .val (.ref b9)] []))
          refine Goes.pre (fun t kt => XS.aload X25.here hx rfl (hb hby at_232) rfl rfl kt) ?_
          show Goes p e below s _ _ _ (T25.setTop (mkF m 234 #[.val (.long q1), .second, .val (.int p2), .val (.long q3), .second, .val (.long q4), .second, .val (.long q5), .second, .val (.int p6), .val (.int (p2.toInt16.toInt32)), .val (.int j1_0), .val (.int (0 : Int32)), .val (.int j2_0), .val (.ref b3), .val (.ref b6), .val .null, .val (.ref b6), .val (.ref b9)] [(.ref b9)]))
          obtain ⟨cq28, kq28, qa28, qb28, qc28⟩ := isOf hZ eq25 fc18
          obtain ⟨_, _, ⟨T27, L27, k27, n27⟩, -, X27, ⟨Lc27, hQ27, l27, y27, z27⟩, st27⟩ := X25.virtualBack hx (y := (⟨"com/example/seqlint/seqlint/kafka/Transaction", "file", "()Ljava/lang/String;"⟩ : MethodName)) (z := (⟨"com/example/seqlint/seqlint/kafka/Transaction", "file", "()Ljava/lang/String;"⟩ : MethodName)) hown (mvT hZ (hw _ (List.mem_of_getElem? (i := 87) rfl))) (mvT hZ (hw _ (List.mem_of_getElem? (i := 88) rfl))) (notFace_of_selects (args := #[]) (mvT hZ (hw _ (List.mem_of_getElem? (i := 90) rfl)))) (mvT hZ (hw _ (List.mem_of_getElem? (i := 90) rfl))) (mvT hZ (hw _ (List.mem_of_getElem? (i := 89) rfl))) (by decide) (backOf (W := 0) (rm14n l Z a0 hw [] b9 h14 n0 Z14 pq14_4) hZ (hw _ (List.mem_of_getElem? (i := 91) rfl)) (hw _ (List.mem_of_getElem? (i := 32) rfl)) (by decide) (by decide)) qa28 qc28 (g := (mkF m 234 #[.val (.long q1), .second, .val (.int p2), .val (.long q3), .second, .val (.long q4), .second, .val (.long q5), .second, .val (.int p6), .val (.int (p2.toInt16.toInt32)), .val (.int j1_0), .val (.int (0 : Int32)), .val (.int j2_0), .val (.ref b3), .val (.ref b6), .val .null, .val (.ref b6), .val (.ref b9)] [(.ref b9)])) rfl (by rw [hml]; rfl) (Steps.refl _) (argsL := []) (rest := []) (lenOf pd_7 rfl) rfl (by show 2 * 0 + _ ≤ _; exact Nat.le_of_eq rfl) (hb hby at_234) (fun _ _ => ⟨rfl, eq25, (by decide : 4 + 0 ≤ _), (by decide : 17 + 0 ≤ _)⟩)
          dsimp only [Pt.U, Pt.locs, Pt.cells, Pt.slots] at X27 l27 y27 z27 st27 hQ27
          subst l27 y27 z27
          obtain ⟨rfl, Nq27, eq27⟩ := hQ27
          refine Goes.run st27 ?_
          have N27 := Fr.app N25 Nq27
          show Goes p e below s _ _ _ (T27.setTop (mkF m 237 #[.val (.long q1), .second, .val (.int p2), .val (.long q3), .second, .val (.long q4), .second, .val (.long q5), .second, .val (.int p6), .val (.int (p2.toInt16.toInt32)), .val (.int j1_0), .val (.int (0 : Int32)), .val (.int j2_0), .val (.ref b3), .val (.ref b6), .val .null, .val (.ref b6), .val (.ref b9)] [.null]))
          refine Goes.pre (fun t kt => XS.aload X27.here hx rfl (hb hby at_237) rfl rfl kt) ?_
          show Goes p e below s _ _ _ (T27.setTop (mkF m 239 #[.val (.long q1), .second, .val (.int p2), .val (.long q3), .second, .val (.long q4), .second, .val (.long q5), .second, .val (.int p6), .val (.int (p2.toInt16.toInt32)), .val (.int j1_0), .val (.int (0 : Int32)), .val (.int j2_0), .val (.ref b3), .val (.ref b6), .val .null, .val (.ref b6), .val (.ref b9)] [.null, .null]))
          refine Goes.pre (fun t kt => Jvm.RoadKit.acmp (g := (mkF m 239 #[.val (.long q1), .second, .val (.int p2), .val (.long q3), .second, .val (.long q4), .second, .val (.long q5), .second, .val (.int p6), .val (.int (p2.toInt16.toInt32)), .val (.int j1_0), .val (.int (0 : Int32)), .val (.int j2_0), .val (.ref b3), .val (.ref b6), .val .null, .val (.ref b6), .val (.ref b9)] [.null, .null])) X27 hx rfl rfl rfl (pc0 := 239) (pc' := 242) (same := true) rfl (hb hby at_239) rfl (decide_eq_true rfl) (by decide) (by decide) kt) ?_
          show Goes p e below s _ _ _ (T27.setTop (mkF m 242 #[.val (.long q1), .second, .val (.int p2), .val (.long q3), .second, .val (.long q4), .second, .val (.long q5), .second, .val (.int p6), .val (.int (p2.toInt16.toInt32)), .val (.int j1_0), .val (.int (0 : Int32)), .val (.int j2_0), .val (.ref b3), .val (.ref b6), .val .null, .val (.ref b6), .val (.ref b9)] []))
          refine Goes.pre (fun t kt => XS.aload X27.here hx rfl (hb hby at_242) rfl rfl kt) ?_
          show Goes p e below s _ _ _ (T27.setTop (mkF m 244 #[.val (.long q1), .second, .val (.int p2), .val (.long q3), .second, .val (.long q4), .second, .val (.long q5), .second, .val (.int p6), .val (.int (p2.toInt16.toInt32)), .val (.int j1_0), .val (.int (0 : Int32)), .val (.int j2_0), .val (.ref b3), .val (.ref b6), .val .null, .val (.ref b6), .val (.ref b9)] [(.ref b9)]))
          obtain ⟨cq30, kq30, qa30, qb30, qc30⟩ := isOf hZ eq27 fc18
          obtain ⟨_, _, ⟨T29, L29, k29, n29⟩, -, X29, ⟨Lc29, hQ29, l29, y29, z29⟩, st29⟩ := X27.virtualBack hx (y := (⟨"com/example/seqlint/seqlint/kafka/Transaction", "firstTimestamp", "()J"⟩ : MethodName)) (z := (⟨"com/example/seqlint/seqlint/kafka/Transaction", "firstTimestamp", "()J"⟩ : MethodName)) hown (mvT hZ (hw _ (List.mem_of_getElem? (i := 92) rfl))) (mvT hZ (hw _ (List.mem_of_getElem? (i := 93) rfl))) (notFace_of_selects (args := #[]) (mvT hZ (hw _ (List.mem_of_getElem? (i := 95) rfl)))) (mvT hZ (hw _ (List.mem_of_getElem? (i := 95) rfl))) (mvT hZ (hw _ (List.mem_of_getElem? (i := 94) rfl))) (by decide) (backOf (W := 0) (rm15 l Z a0 hw [] b9 q5 h14 n0 Z14 pq14_5) hZ (hw _ (List.mem_of_getElem? (i := 96) rfl)) (hw _ (List.mem_of_getElem? (i := 32) rfl)) (by decide) (by decide)) qa30 qc30 (g := (mkF m 244 #[.val (.long q1), .second, .val (.int p2), .val (.long q3), .second, .val (.long q4), .second, .val (.long q5), .second, .val (.int p6), .val (.int (p2.toInt16.toInt32)), .val (.int j1_0), .val (.int (0 : Int32)), .val (.int j2_0), .val (.ref b3), .val (.ref b6), .val .null, .val (.ref b6), .val (.ref b9)] [(.ref b9)])) rfl (by rw [hml]; rfl) (Steps.refl _) (argsL := []) (rest := []) (lenOf pd_6 rfl) rfl (by show 2 * 0 + _ ≤ _; exact Nat.le_of_eq rfl) (hb hby at_244) (fun _ _ => ⟨rfl, eq27, (by decide : 4 + 0 ≤ _), (by decide : 17 + 0 ≤ _)⟩)
          dsimp only [Pt.U, Pt.locs, Pt.cells, Pt.slots] at X29 l29 y29 z29 st29 hQ29
          subst l29 y29 z29
          obtain ⟨rfl, Nq29, eq29⟩ := hQ29
          refine Goes.run st29 ?_
          have N29 := Fr.app N27 Nq29
          show Goes p e below s _ _ _ (T29.setTop (mkF m 247 #[.val (.long q1), .second, .val (.int p2), .val (.long q3), .second, .val (.long q4), .second, .val (.long q5), .second, .val (.int p6), .val (.int (p2.toInt16.toInt32)), .val (.int j1_0), .val (.int (0 : Int32)), .val (.int j2_0), .val (.ref b3), .val (.ref b6), .val .null, .val (.ref b6), .val (.ref b9)] [(.long q5)]))
          refine Goes.pre (fun t kt => XS.lload X29.here hx rfl (hb hby at_247) rfl kt) ?_
          show Goes p e below s _ _ _ (T29.setTop (mkF m 249 #[.val (.long q1), .second, .val (.int p2), .val (.long q3), .second, .val (.long q4), .second, .val (.long q5), .second, .val (.int p6), .val (.int (p2.toInt16.toInt32)), .val (.int j1_0), .val (.int (0 : Int32)), .val (.int j2_0), .val (.ref b3), .val (.ref b6), .val .null, .val (.ref b6), .val (.ref b9)] [(.long q5), (.long q5)]))
          refine Goes.pre (fun t kt => XS.lcmp X29.here hx rfl (hb hby at_249) rfl kt) ?_
          show Goes p e below s _ _ _ (T29.setTop (mkF m 250 #[.val (.long q1), .second, .val (.int p2), .val (.long q3), .second, .val (.long q4), .second, .val (.long q5), .second, .val (.int p6), .val (.int (p2.toInt16.toInt32)), .val (.int j1_0), .val (.int (0 : Int32)), .val (.int j2_0), .val (.ref b3), .val (.ref b6), .val .null, .val (.ref b6), .val (.ref b9)] [(.int (lcmpW q5 q5))]))
          refine Goes.pre (fun t kt => XS.ifNo X29.here hx rfl (hb hby at_250) rfl (Jvm.Free.XT.i0_ne_f ((lw_eq _ _).mpr rfl)) kt) ?_
          show Goes p e below s _ _ _ (T29.setTop (mkF m 253 #[.val (.long q1), .second, .val (.int p2), .val (.long q3), .second, .val (.long q4), .second, .val (.long q5), .second, .val (.int p6), .val (.int (p2.toInt16.toInt32)), .val (.int j1_0), .val (.int (0 : Int32)), .val (.int j2_0), .val (.ref b3), .val (.ref b6), .val .null, .val (.ref b6), .val (.ref b9)] []))
          refine Goes.pre (fun t kt => XS.aload X29.here hx rfl (hb hby at_253) rfl rfl kt) ?_
          show Goes p e below s _ _ _ (T29.setTop (mkF m 255 #[.val (.long q1), .second, .val (.int p2), .val (.long q3), .second, .val (.long q4), .second, .val (.long q5), .second, .val (.int p6), .val (.int (p2.toInt16.toInt32)), .val (.int j1_0), .val (.int (0 : Int32)), .val (.int j2_0), .val (.ref b3), .val (.ref b6), .val .null, .val (.ref b6), .val (.ref b9)] [(.ref b9)]))
          obtain ⟨cq32, kq32, qa32, qb32, qc32⟩ := isOf hZ eq29 fc18
          obtain ⟨_, _, ⟨T31, L31, k31, n31⟩, -, X31, ⟨Lc31, hQ31, l31, y31, z31⟩, st31⟩ := X29.virtualBack hx (y := (⟨"com/example/seqlint/seqlint/kafka/Transaction", "isReported", "()Z"⟩ : MethodName)) (z := (⟨"com/example/seqlint/seqlint/kafka/Transaction", "isReported", "()Z"⟩ : MethodName)) hown (mvT hZ (hw _ (List.mem_of_getElem? (i := 97) rfl))) (mvT hZ (hw _ (List.mem_of_getElem? (i := 98) rfl))) (notFace_of_selects (args := #[]) (mvT hZ (hw _ (List.mem_of_getElem? (i := 100) rfl)))) (mvT hZ (hw _ (List.mem_of_getElem? (i := 100) rfl))) (mvT hZ (hw _ (List.mem_of_getElem? (i := 99) rfl))) (by decide) (backOf (W := 0) (rm16 l Z a0 hw [] b9 (j1_0 &&& 1) h14 n0 Z14 pq14_6) hZ (hw _ (List.mem_of_getElem? (i := 101) rfl)) (hw _ (List.mem_of_getElem? (i := 32) rfl)) (by decide) (by decide)) qa32 qc32 (g := (mkF m 255 #[.val (.long q1), .second, .val (.int p2), .val (.long q3), .second, .val (.long q4), .second, .val (.long q5), .second, .val (.int p6), .val (.int (p2.toInt16.toInt32)), .val (.int j1_0), .val (.int (0 : Int32)), .val (.int j2_0), .val (.ref b3), .val (.ref b6), .val .null, .val (.ref b6), .val (.ref b9)] [(.ref b9)])) rfl (by rw [hml]; rfl) (Steps.refl _) (argsL := []) (rest := []) (lenOf pd_4 rfl) rfl (by show 2 * 0 + _ ≤ _; exact Nat.le_of_eq rfl) (hb hby at_255) (fun _ _ => ⟨rfl, eq29, (by decide : 4 + 0 ≤ _), (by decide : 17 + 0 ≤ _)⟩)
          dsimp only [Pt.U, Pt.locs, Pt.cells, Pt.slots] at X31 l31 y31 z31 st31 hQ31
          subst l31 y31 z31
          obtain ⟨rfl, Nq31, eq31⟩ := hQ31
          refine Goes.run st31 ?_
          have N31 := Fr.app N29 Nq31
          show Goes p e below s _ _ _ (T31.setTop (mkF m 258 #[.val (.long q1), .second, .val (.int p2), .val (.long q3), .second, .val (.long q4), .second, .val (.long q5), .second, .val (.int p6), .val (.int (p2.toInt16.toInt32)), .val (.int j1_0), .val (.int (0 : Int32)), .val (.int j2_0), .val (.ref b3), .val (.ref b6), .val .null, .val (.ref b6), .val (.ref b9)] [(.int ((j1_0 &&& 1) &&& 1))]))
          refine Goes.pre (fun t kt => XS.iload X31.here hx rfl (hb hby at_258) rfl kt) ?_
          show Goes p e below s _ _ _ (T31.setTop (mkF m 260 #[.val (.long q1), .second, .val (.int p2), .val (.long q3), .second, .val (.long q4), .second, .val (.long q5), .second, .val (.int p6), .val (.int (p2.toInt16.toInt32)), .val (.int j1_0), .val (.int (0 : Int32)), .val (.int j2_0), .val (.ref b3), .val (.ref b6), .val .null, .val (.ref b6), .val (.ref b9)] [(.int j1_0), (.int ((j1_0 &&& 1) &&& 1))]))
          refine Goes.pre (fun t kt => XS.icmpNo X31.here hx rfl (hb hby at_260) rfl (Jvm.Free.XT.ii_ne_f ((own_b1 hb8))) kt) ?_
          show Goes p e below s _ _ _ (T31.setTop (mkF m 263 #[.val (.long q1), .second, .val (.int p2), .val (.long q3), .second, .val (.long q4), .second, .val (.long q5), .second, .val (.int p6), .val (.int (p2.toInt16.toInt32)), .val (.int j1_0), .val (.int (0 : Int32)), .val (.int j2_0), .val (.ref b3), .val (.ref b6), .val .null, .val (.ref b6), .val (.ref b9)] []))
          refine Goes.pre (fun t kt => XS.iconst X31.here hx rfl (hb hby at_263) kt) ?_
          show Goes p e below s _ _ _ (T31.setTop (mkF m 264 #[.val (.long q1), .second, .val (.int p2), .val (.long q3), .second, .val (.long q4), .second, .val (.long q5), .second, .val (.int p6), .val (.int (p2.toInt16.toInt32)), .val (.int j1_0), .val (.int (0 : Int32)), .val (.int j2_0), .val (.ref b3), .val (.ref b6), .val .null, .val (.ref b6), .val (.ref b9)] [(.int (1 : Int32))]))
          refine Goes.pre (fun t kt => XS.goto X31.here hx rfl (pc0 := 264) (pc' := 268) rfl (hb hby at_264) (by decide) (by decide) kt) ?_
          show Goes p e below s _ _ _ (T31.setTop (mkF m 268 #[.val (.long q1), .second, .val (.int p2), .val (.long q3), .second, .val (.long q4), .second, .val (.long q5), .second, .val (.int p6), .val (.int (p2.toInt16.toInt32)), .val (.int j1_0), .val (.int (0 : Int32)), .val (.int j2_0), .val (.ref b3), .val (.ref b6), .val .null, .val (.ref b6), .val (.ref b9)] [(.int (1 : Int32))]))
          refine Goes.ret X31 (some (.int (1 : Int32))) (fun h => by rw [Bd.returns] at h; cases h) (BodyLoose.notSynchronized Bd) (by decide) (by decide) (fun fs hr => retN X31 hx (t := .boolean) Bd.returns (by simp) (hb hby at_268) hr) ?_
          show Q_rm0 Z q1 p2 q3 q4 q5 p6 G1 h0 n0 _ T31.heap _
          rw [eq31]
          exact ⟨rfl, N31⟩
        · refine Goes.pre (fun t kt => XS.ifNo X12.here hx rfl (hb hby at_128) rfl (Jvm.Free.XT.i0_eq_f (hc128)) kt) ?_
          show Goes p e below s _ _ _ (T12.setTop (mkF m 131 #[.val (.long q1), .second, .val (.int p2), .val (.long q3), .second, .val (.long q4), .second, .val (.long q5), .second, .val (.int p6), .val (.int (p2.toInt16.toInt32)), .val (.int j1_0), .val (.int (0 : Int32)), .val (.int j2_0), .val (.ref b3), .val (.ref b6), .val .null, .val (.ref b6), .val (.ref b9)] []))
          refine Goes.pre (fun t kt => XS.aload X12.here hx rfl (hb hby at_131) rfl rfl kt) ?_
          show Goes p e below s _ _ _ (T12.setTop (mkF m 133 #[.val (.long q1), .second, .val (.int p2), .val (.long q3), .second, .val (.long q4), .second, .val (.long q5), .second, .val (.int p6), .val (.int (p2.toInt16.toInt32)), .val (.int j1_0), .val (.int (0 : Int32)), .val (.int j2_0), .val (.ref b3), .val (.ref b6), .val .null, .val (.ref b6), .val (.ref b9)] [(.ref b9)]))
          refine Goes.pre (fun t kt => XS.iloadN X12.here hx rfl (hb hby at_133) rfl kt) ?_
          show Goes p e below s _ _ _ (T12.setTop (mkF m 134 #[.val (.long q1), .second, .val (.int p2), .val (.long q3), .second, .val (.long q4), .second, .val (.long q5), .second, .val (.int p6), .val (.int (p2.toInt16.toInt32)), .val (.int j1_0), .val (.int (0 : Int32)), .val (.int j2_0), .val (.ref b3), .val (.ref b6), .val .null, .val (.ref b6), .val (.ref b9)] [(.int p2), (.ref b9)]))
          refine Goes.pre (fun t kt => XS.iconst X12.here hx rfl (hb hby at_134) kt) ?_
          show Goes p e below s _ _ _ (T12.setTop (mkF m 135 #[.val (.long q1), .second, .val (.int p2), .val (.long q3), .second, .val (.long q4), .second, .val (.long q5), .second, .val (.int p6), .val (.int (p2.toInt16.toInt32)), .val (.int j1_0), .val (.int (0 : Int32)), .val (.int j2_0), .val (.ref b3), .val (.ref b6), .val .null, .val (.ref b6), .val (.ref b9)] [(.int (-1 : Int32)), (.int p2), (.ref b9)]))
          refine Goes.pre (fun t kt => XS.ixor X12.here hx rfl (hb hby at_135) rfl kt) ?_
          show Goes p e below s _ _ _ (T12.setTop (mkF m 136 #[.val (.long q1), .second, .val (.int p2), .val (.long q3), .second, .val (.long q4), .second, .val (.long q5), .second, .val (.int p6), .val (.int (p2.toInt16.toInt32)), .val (.int j1_0), .val (.int (0 : Int32)), .val (.int j2_0), .val (.ref b3), .val (.ref b6), .val .null, .val (.ref b6), .val (.ref b9)] [(.int (p2 ^^^ (-1 : Int32))), (.ref b9)]))
          refine Goes.pre (fun t kt => XS.i2s X12.here hx rfl (hb hby at_136) rfl kt) ?_
          show Goes p e below s _ _ _ (T12.setTop (mkF m 137 #[.val (.long q1), .second, .val (.int p2), .val (.long q3), .second, .val (.long q4), .second, .val (.long q5), .second, .val (.int p6), .val (.int (p2.toInt16.toInt32)), .val (.int j1_0), .val (.int (0 : Int32)), .val (.int j2_0), .val (.ref b3), .val (.ref b6), .val .null, .val (.ref b6), .val (.ref b9)] [(.int ((p2 ^^^ (-1 : Int32)).toInt16.toInt32)), (.ref b9)]))
          refine Goes.pre (fun t kt => XS.lloadN X12.here hx rfl (hb hby at_137) rfl kt) ?_
          show Goes p e below s _ _ _ (T12.setTop (mkF m 138 #[.val (.long q1), .second, .val (.int p2), .val (.long q3), .second, .val (.long q4), .second, .val (.long q5), .second, .val (.int p6), .val (.int (p2.toInt16.toInt32)), .val (.int j1_0), .val (.int (0 : Int32)), .val (.int j2_0), .val (.ref b3), .val (.ref b6), .val .null, .val (.ref b6), .val (.ref b9)] [(.long q3), (.int ((p2 ^^^ (-1 : Int32)).toInt16.toInt32)), (.ref b9)]))
          refine Goes.pre (X12.ldc2Long hx hown (mvT hZ (hw _ (List.mem_of_getElem? (i := 102) rfl))) (g := (mkF m 138 #[.val (.long q1), .second, .val (.int p2), .val (.long q3), .second, .val (.long q4), .second, .val (.long q5), .second, .val (.int p6), .val (.int (p2.toInt16.toInt32)), .val (.int j1_0), .val (.int (0 : Int32)), .val (.int j2_0), .val (.ref b3), .val (.ref b6), .val .null, .val (.ref b6), .val (.ref b9)] [(.long q3), (.int ((p2 ^^^ (-1 : Int32)).toInt16.toInt32)), (.ref b9)])) rfl (hb hby at_138)) ?_
          show Goes p e below s _ _ _ (T12.setTop (mkF m 141 #[.val (.long q1), .second, .val (.int p2), .val (.long q3), .second, .val (.long q4), .second, .val (.long q5), .second, .val (.int p6), .val (.int (p2.toInt16.toInt32)), .val (.int j1_0), .val (.int (0 : Int32)), .val (.int j2_0), .val (.ref b3), .val (.ref b6), .val .null, .val (.ref b6), .val (.ref b9)] [(.long (-1 : Int64)), (.long q3), (.int ((p2 ^^^ (-1 : Int32)).toInt16.toInt32)), (.ref b9)]))
          refine Goes.pre (fun t kt => XS.lxor X12.here hx rfl (hb hby at_141) rfl kt) ?_
          show Goes p e below s _ _ _ (T12.setTop (mkF m 142 #[.val (.long q1), .second, .val (.int p2), .val (.long q3), .second, .val (.long q4), .second, .val (.long q5), .second, .val (.int p6), .val (.int (p2.toInt16.toInt32)), .val (.int j1_0), .val (.int (0 : Int32)), .val (.int j2_0), .val (.ref b3), .val (.ref b6), .val .null, .val (.ref b6), .val (.ref b9)] [(.long (q3 ^^^ (-1 : Int64))), (.int ((p2 ^^^ (-1 : Int32)).toInt16.toInt32)), (.ref b9)]))
          refine Goes.pre (fun t kt => XS.lload X12.here hx rfl (hb hby at_142) rfl kt) ?_
          show Goes p e below s _ _ _ (T12.setTop (mkF m 144 #[.val (.long q1), .second, .val (.int p2), .val (.long q3), .second, .val (.long q4), .second, .val (.long q5), .second, .val (.int p6), .val (.int (p2.toInt16.toInt32)), .val (.int j1_0), .val (.int (0 : Int32)), .val (.int j2_0), .val (.ref b3), .val (.ref b6), .val .null, .val (.ref b6), .val (.ref b9)] [(.long q4), (.long (q3 ^^^ (-1 : Int64))), (.int ((p2 ^^^ (-1 : Int32)).toInt16.toInt32)), (.ref b9)]))
          refine Goes.pre (X12.ldc2Long hx hown (mvT hZ (hw _ (List.mem_of_getElem? (i := 102) rfl))) (g := (mkF m 144 #[.val (.long q1), .second, .val (.int p2), .val (.long q3), .second, .val (.long q4), .second, .val (.long q5), .second, .val (.int p6), .val (.int (p2.toInt16.toInt32)), .val (.int j1_0), .val (.int (0 : Int32)), .val (.int j2_0), .val (.ref b3), .val (.ref b6), .val .null, .val (.ref b6), .val (.ref b9)] [(.long q4), (.long (q3 ^^^ (-1 : Int64))), (.int ((p2 ^^^ (-1 : Int32)).toInt16.toInt32)), (.ref b9)])) rfl (hb hby at_144)) ?_
          show Goes p e below s _ _ _ (T12.setTop (mkF m 147 #[.val (.long q1), .second, .val (.int p2), .val (.long q3), .second, .val (.long q4), .second, .val (.long q5), .second, .val (.int p6), .val (.int (p2.toInt16.toInt32)), .val (.int j1_0), .val (.int (0 : Int32)), .val (.int j2_0), .val (.ref b3), .val (.ref b6), .val .null, .val (.ref b6), .val (.ref b9)] [(.long (-1 : Int64)), (.long q4), (.long (q3 ^^^ (-1 : Int64))), (.int ((p2 ^^^ (-1 : Int32)).toInt16.toInt32)), (.ref b9)]))
          refine Goes.pre (fun t kt => XS.lxor X12.here hx rfl (hb hby at_147) rfl kt) ?_
          show Goes p e below s _ _ _ (T12.setTop (mkF m 148 #[.val (.long q1), .second, .val (.int p2), .val (.long q3), .second, .val (.long q4), .second, .val (.long q5), .second, .val (.int p6), .val (.int (p2.toInt16.toInt32)), .val (.int j1_0), .val (.int (0 : Int32)), .val (.int j2_0), .val (.ref b3), .val (.ref b6), .val .null, .val (.ref b6), .val (.ref b9)] [(.long (q4 ^^^ (-1 : Int64))), (.long (q3 ^^^ (-1 : Int64))), (.int ((p2 ^^^ (-1 : Int32)).toInt16.toInt32)), (.ref b9)]))
          refine Goes.pre (fun t kt => XS.aload X12.here hx rfl (hb hby at_148) rfl rfl kt) ?_
          show Goes p e below s _ _ _ (T12.setTop (mkF m 150 #[.val (.long q1), .second, .val (.int p2), .val (.long q3), .second, .val (.long q4), .second, .val (.long q5), .second, .val (.int p6), .val (.int (p2.toInt16.toInt32)), .val (.int j1_0), .val (.int (0 : Int32)), .val (.int j2_0), .val (.ref b3), .val (.ref b6), .val .null, .val (.ref b6), .val (.ref b9)] [(.ref b6), (.long (q4 ^^^ (-1 : Int64))), (.long (q3 ^^^ (-1 : Int64))), (.int ((p2 ^^^ (-1 : Int32)).toInt16.toInt32)), (.ref b9)]))
          refine Goes.pre (fun t kt => XS.lload X12.here hx rfl (hb hby at_150) rfl kt) ?_
          show Goes p e below s _ _ _ (T12.setTop (mkF m 152 #[.val (.long q1), .second, .val (.int p2), .val (.long q3), .second, .val (.long q4), .second, .val (.long q5), .second, .val (.int p6), .val (.int (p2.toInt16.toInt32)), .val (.int j1_0), .val (.int (0 : Int32)), .val (.int j2_0), .val (.ref b3), .val (.ref b6), .val .null, .val (.ref b6), .val (.ref b9)] [(.long q5), (.ref b6), (.long (q4 ^^^ (-1 : Int64))), (.long (q3 ^^^ (-1 : Int64))), (.int ((p2 ^^^ (-1 : Int32)).toInt16.toInt32)), (.ref b9)]))
          refine Goes.pre (X12.ldc2Long hx hown (mvT hZ (hw _ (List.mem_of_getElem? (i := 102) rfl))) (g := (mkF m 152 #[.val (.long q1), .second, .val (.int p2), .val (.long q3), .second, .val (.long q4), .second, .val (.long q5), .second, .val (.int p6), .val (.int (p2.toInt16.toInt32)), .val (.int j1_0), .val (.int (0 : Int32)), .val (.int j2_0), .val (.ref b3), .val (.ref b6), .val .null, .val (.ref b6), .val (.ref b9)] [(.long q5), (.ref b6), (.long (q4 ^^^ (-1 : Int64))), (.long (q3 ^^^ (-1 : Int64))), (.int ((p2 ^^^ (-1 : Int32)).toInt16.toInt32)), (.ref b9)])) rfl (hb hby at_152)) ?_
          show Goes p e below s _ _ _ (T12.setTop (mkF m 155 #[.val (.long q1), .second, .val (.int p2), .val (.long q3), .second, .val (.long q4), .second, .val (.long q5), .second, .val (.int p6), .val (.int (p2.toInt16.toInt32)), .val (.int j1_0), .val (.int (0 : Int32)), .val (.int j2_0), .val (.ref b3), .val (.ref b6), .val .null, .val (.ref b6), .val (.ref b9)] [(.long (-1 : Int64)), (.long q5), (.ref b6), (.long (q4 ^^^ (-1 : Int64))), (.long (q3 ^^^ (-1 : Int64))), (.int ((p2 ^^^ (-1 : Int32)).toInt16.toInt32)), (.ref b9)]))
          refine Goes.pre (fun t kt => XS.lxor X12.here hx rfl (hb hby at_155) rfl kt) ?_
          show Goes p e below s _ _ _ (T12.setTop (mkF m 156 #[.val (.long q1), .second, .val (.int p2), .val (.long q3), .second, .val (.long q4), .second, .val (.long q5), .second, .val (.int p6), .val (.int (p2.toInt16.toInt32)), .val (.int j1_0), .val (.int (0 : Int32)), .val (.int j2_0), .val (.ref b3), .val (.ref b6), .val .null, .val (.ref b6), .val (.ref b9)] [(.long (q5 ^^^ (-1 : Int64))), (.ref b6), (.long (q4 ^^^ (-1 : Int64))), (.long (q3 ^^^ (-1 : Int64))), (.int ((p2 ^^^ (-1 : Int32)).toInt16.toInt32)), (.ref b9)]))
          refine Goes.pre (fun t kt => XS.iload X12.here hx rfl (hb hby at_156) rfl kt) ?_
          show Goes p e below s _ _ _ (T12.setTop (mkF m 158 #[.val (.long q1), .second, .val (.int p2), .val (.long q3), .second, .val (.long q4), .second, .val (.long q5), .second, .val (.int p6), .val (.int (p2.toInt16.toInt32)), .val (.int j1_0), .val (.int (0 : Int32)), .val (.int j2_0), .val (.ref b3), .val (.ref b6), .val .null, .val (.ref b6), .val (.ref b9)] [(.int j1_0), (.long (q5 ^^^ (-1 : Int64))), (.ref b6), (.long (q4 ^^^ (-1 : Int64))), (.long (q3 ^^^ (-1 : Int64))), (.int ((p2 ^^^ (-1 : Int32)).toInt16.toInt32)), (.ref b9)]))
          have J33 : ∀ (j33_0 : Int32), Goes p e below s (Q_rm0 Z q1 p2 q3 q4 q5 p6 G1 h0 n0) room_1.cells room_1.slots (T12.setTop (mkF m 166 #[.val (.long q1), .second, .val (.int p2), .val (.long q3), .second, .val (.long q4), .second, .val (.long q5), .second, .val (.int p6), .val (.int (p2.toInt16.toInt32)), .val (.int j1_0), .val (.int (0 : Int32)), .val (.int j2_0), .val (.ref b3), .val (.ref b6), .val .null, .val (.ref b6), .val (.ref b9)] [(.int j33_0), (.long (q5 ^^^ (-1 : Int64))), (.ref b6), (.long (q4 ^^^ (-1 : Int64))), (.long (q3 ^^^ (-1 : Int64))), (.int ((p2 ^^^ (-1 : Int32)).toInt16.toInt32)), (.ref b9)])) := by
            intro j33_0
            have fc34 : Exa Z h12 b9 "com/example/seqlint/seqlint/kafka/Transaction" := (A9.keep Kq12)
            obtain ⟨cq36, kq36, qa36, qb36, qc36⟩ := isOf hZ e12 fc34
            obtain ⟨_, _, ⟨T35, L35, k35, n35⟩, -, X35, ⟨Lc35, hQ35, l35, y35, z35⟩, st35⟩ := X12.virtualBack hx (y := (⟨"com/example/seqlint/seqlint/kafka/Transaction", "open", "(SJJLjava/lang/String;JZ)V"⟩ : MethodName)) (z := (⟨"com/example/seqlint/seqlint/kafka/Transaction", "open", "(SJJLjava/lang/String;JZ)V"⟩ : MethodName)) hown (mvT hZ (hw _ (List.mem_of_getElem? (i := 45) rfl))) (mvT hZ (hw _ (List.mem_of_getElem? (i := 46) rfl))) (notFace_of_selects (args := #[]) (mvT hZ (hw _ (List.mem_of_getElem? (i := 48) rfl)))) (mvT hZ (hw _ (List.mem_of_getElem? (i := 48) rfl))) (mvT hZ (hw _ (List.mem_of_getElem? (i := 47) rfl))) (by decide) (backOf (W := 0) (rm8r l Z a0 hw [] b9 ((p2 ^^^ (-1 : Int32)).toInt16.toInt32) (q3 ^^^ (-1 : Int64)) (q4 ^^^ (-1 : Int64)) b6 (q5 ^^^ (-1 : Int64)) j33_0 (.int (0 : Int32)) (.int (-2147483648 : Int32)) (.long (0 : Int64)) (.long (0 : Int64)) .null (.long (0 : Int64)) (.int (0 : Int32)) h12 n0 Z12 fc34 gg9 pq12_1 pq12_0 pq12_2 pq12_3 pq12_4 pq12_5 pq12_6) hZ (hw _ (List.mem_of_getElem? (i := 49) rfl)) (hw _ (List.mem_of_getElem? (i := 32) rfl)) (by decide) (by decide)) qa36 qc36 (g := (mkF m 166 #[.val (.long q1), .second, .val (.int p2), .val (.long q3), .second, .val (.long q4), .second, .val (.long q5), .second, .val (.int p6), .val (.int (p2.toInt16.toInt32)), .val (.int j1_0), .val (.int (0 : Int32)), .val (.int j2_0), .val (.ref b3), .val (.ref b6), .val .null, .val (.ref b6), .val (.ref b9)] [(.int j33_0), (.long (q5 ^^^ (-1 : Int64))), (.ref b6), (.long (q4 ^^^ (-1 : Int64))), (.long (q3 ^^^ (-1 : Int64))), (.int ((p2 ^^^ (-1 : Int32)).toInt16.toInt32)), (.ref b9)])) rfl (by rw [hml]; rfl) (Steps.refl _) (argsL := [(.int ((p2 ^^^ (-1 : Int32)).toInt16.toInt32)), (.long (q3 ^^^ (-1 : Int64))), (.long (q4 ^^^ (-1 : Int64))), (.ref b6), (.long (q5 ^^^ (-1 : Int64))), (.int j33_0)]) (rest := []) (lenOf pd_3 rfl) rfl (by show 2 * 0 + _ ≤ _; exact Nat.le_of_eq rfl) (hb hby at_166) (fun _ _ => ⟨rfl, e12, (by decide : 4 + 0 ≤ _), (by decide : 17 + 0 ≤ _)⟩)
            dsimp only [Pt.U, Pt.locs, Pt.cells, Pt.slots] at X35 l35 y35 z35 st35 hQ35
            subst l35 y35 z35
            obtain ⟨rfl, Nq35, Kq35, pq35_0, pq35_1, pq35_2, pq35_3, pq35_4, pq35_5, pq35_6⟩ := hQ35
            refine Goes.run st35 ?_
            have N35 := Fr.app N12 Nq35
            obtain ⟨h35, e35⟩ : ∃ z, T35.heap = z := ⟨_, rfl⟩
            rw [e35] at Kq35 pq35_0 pq35_1 pq35_2 pq35_3 pq35_4 pq35_5 pq35_6
            have Z35 : n0 ≤ h35.size := Nat.le_trans Z12 Kq35.1
            have Od35 := Od12.keep Kq35 (allS gg9 all0)
            show Goes p e below s _ _ _ (T35.setTop (mkF m 169 #[.val (.long q1), .second, .val (.int p2), .val (.long q3), .second, .val (.long q4), .second, .val (.long q5), .second, .val (.int p6), .val (.int (p2.toInt16.toInt32)), .val (.int j1_0), .val (.int (0 : Int32)), .val (.int j2_0), .val (.ref b3), .val (.ref b6), .val .null, .val (.ref b6), .val (.ref b9)] []))
            refine Goes.pre (fun t kt => XS.aload X35.here hx rfl (hb hby at_169) rfl rfl kt) ?_
            show Goes p e below s _ _ _ (T35.setTop (mkF m 171 #[.val (.long q1), .second, .val (.int p2), .val (.long q3), .second, .val (.long q4), .second, .val (.long q5), .second, .val (.int p6), .val (.int (p2.toInt16.toInt32)), .val (.int j1_0), .val (.int (0 : Int32)), .val (.int j2_0), .val (.ref b3), .val (.ref b6), .val .null, .val (.ref b6), .val (.ref b9)] [(.ref b9)]))
            refine Goes.pre (fun t kt => XS.iload X35.here hx rfl (hb hby at_171) rfl kt) ?_
            show Goes p e below s _ _ _ (T35.setTop (mkF m 173 #[.val (.long q1), .second, .val (.int p2), .val (.long q3), .second, .val (.long q4), .second, .val (.long q5), .second, .val (.int p6), .val (.int (p2.toInt16.toInt32)), .val (.int j1_0), .val (.int (0 : Int32)), .val (.int j2_0), .val (.ref b3), .val (.ref b6), .val .null, .val (.ref b6), .val (.ref b9)] [(.int (p2.toInt16.toInt32)), (.ref b9)]))
            refine Goes.pre (fun t kt => XS.lloadN X35.here hx rfl (hb hby at_173) rfl kt) ?_
            show Goes p e below s _ _ _ (T35.setTop (mkF m 174 #[.val (.long q1), .second, .val (.int p2), .val (.long q3), .second, .val (.long q4), .second, .val (.long q5), .second, .val (.int p6), .val (.int (p2.toInt16.toInt32)), .val (.int j1_0), .val (.int (0 : Int32)), .val (.int j2_0), .val (.ref b3), .val (.ref b6), .val .null, .val (.ref b6), .val (.ref b9)] [(.long q3), (.int (p2.toInt16.toInt32)), (.ref b9)]))
            refine Goes.pre (fun t kt => XS.lload X35.here hx rfl (hb hby at_174) rfl kt) ?_
            show Goes p e below s _ _ _ (T35.setTop (mkF m 176 #[.val (.long q1), .second, .val (.int p2), .val (.long q3), .second, .val (.long q4), .second, .val (.long q5), .second, .val (.int p6), .val (.int (p2.toInt16.toInt32)), .val (.int j1_0), .val (.int (0 : Int32)), .val (.int j2_0), .val (.ref b3), .val (.ref b6), .val .null, .val (.ref b6), .val (.ref b9)] [(.long q4), (.long q3), (.int (p2.toInt16.toInt32)), (.ref b9)]))
            refine Goes.pre (fun t kt => XS.aload X35.here hx rfl (hb hby at_176) rfl rfl kt) ?_
            show Goes p e below s _ _ _ (T35.setTop (mkF m 178 #[.val (.long q1), .second, .val (.int p2), .val (.long q3), .second, .val (.long q4), .second, .val (.long q5), .second, .val (.int p6), .val (.int (p2.toInt16.toInt32)), .val (.int j1_0), .val (.int (0 : Int32)), .val (.int j2_0), .val (.ref b3), .val (.ref b6), .val .null, .val (.ref b6), .val (.ref b9)] [.null, (.long q4), (.long q3), (.int (p2.toInt16.toInt32)), (.ref b9)]))
            refine Goes.pre (fun t kt => XS.lload X35.here hx rfl (hb hby at_178) rfl kt) ?_
            show Goes p e below s _ _ _ (T35.setTop (mkF m 180 #[.val (.long q1), .second, .val (.int p2), .val (.long q3), .second, .val (.long q4), .second, .val (.long q5), .second, .val (.int p6), .val (.int (p2.toInt16.toInt32)), .val (.int j1_0), .val (.int (0 : Int32)), .val (.int j2_0), .val (.ref b3), .val (.ref b6), .val .null, .val (.ref b6), .val (.ref b9)] [(.long q5), .null, (.long q4), (.long q3), (.int (p2.toInt16.toInt32)), (.ref b9)]))
            refine Goes.pre (fun t kt => XS.iload X35.here hx rfl (hb hby at_180) rfl kt) ?_
            show Goes p e below s _ _ _ (T35.setTop (mkF m 182 #[.val (.long q1), .second, .val (.int p2), .val (.long q3), .second, .val (.long q4), .second, .val (.long q5), .second, .val (.int p6), .val (.int (p2.toInt16.toInt32)), .val (.int j1_0), .val (.int (0 : Int32)), .val (.int j2_0), .val (.ref b3), .val (.ref b6), .val .null, .val (.ref b6), .val (.ref b9)] [(.int j1_0), (.long q5), .null, (.long q4), (.long q3), (.int (p2.toInt16.toInt32)), (.ref b9)]))
            have fc37 : Exa Z h35 b9 "com/example/seqlint/seqlint/kafka/Transaction" := (fc34.keep Kq35)
            obtain ⟨cq39, kq39, qa39, qb39, qc39⟩ := isOf hZ e35 fc37
            obtain ⟨_, _, ⟨T38, L38, k38, n38⟩, -, X38, ⟨Lc38, hQ38, l38, y38, z38⟩, st38⟩ := X35.virtualBack hx (y := (⟨"com/example/seqlint/seqlint/kafka/Transaction", "open", "(SJJLjava/lang/String;JZ)V"⟩ : MethodName)) (z := (⟨"com/example/seqlint/seqlint/kafka/Transaction", "open", "(SJJLjava/lang/String;JZ)V"⟩ : MethodName)) hown (mvT hZ (hw _ (List.mem_of_getElem? (i := 45) rfl))) (mvT hZ (hw _ (List.mem_of_getElem? (i := 46) rfl))) (notFace_of_selects (args := #[]) (mvT hZ (hw _ (List.mem_of_getElem? (i := 48) rfl)))) (mvT hZ (hw _ (List.mem_of_getElem? (i := 48) rfl))) (mvT hZ (hw _ (List.mem_of_getElem? (i := 47) rfl))) (by decide) (backOf (W := 0) (rm8n l Z a0 hw [] b9 (p2.toInt16.toInt32) q3 q4 q5 j1_0 (.int (1 : Int32)) (.int ((p2 ^^^ (-1 : Int32)).toInt16.toInt32)) (.long (q3 ^^^ (-1 : Int64))) (.long (q4 ^^^ (-1 : Int64))) (.ref b6) (.long (q5 ^^^ (-1 : Int64))) (.int (j33_0 &&& 1)) h35 n0 Z35 fc37 gg9 pq35_0 pq35_1 pq35_2 pq35_3 pq35_4 pq35_5 pq35_6) hZ (hw _ (List.mem_of_getElem? (i := 49) rfl)) (hw _ (List.mem_of_getElem? (i := 32) rfl)) (by decide) (by decide)) qa39 qc39 (g := (mkF m 182 #[.val (.long q1), .second, .val (.int p2), .val (.long q3), .second, .val (.long q4), .second, .val (.long q5), .second, .val (.int p6), .val (.int (p2.toInt16.toInt32)), .val (.int j1_0), .val (.int (0 : Int32)), .val (.int j2_0), .val (.ref b3), .val (.ref b6), .val .null, .val (.ref b6), .val (.ref b9)] [(.int j1_0), (.long q5), .null, (.long q4), (.long q3), (.int (p2.toInt16.toInt32)), (.ref b9)])) rfl (by rw [hml]; rfl) (Steps.refl _) (argsL := [(.int (p2.toInt16.toInt32)), (.long q3), (.long q4), .null, (.long q5), (.int j1_0)]) (rest := []) (lenOf pd_3 rfl) rfl (by show 2 * 0 + _ ≤ _; exact Nat.le_of_eq rfl) (hb hby at_182) (fun _ _ => ⟨rfl, e35, (by decide : 4 + 0 ≤ _), (by decide : 17 + 0 ≤ _)⟩)
            dsimp only [Pt.U, Pt.locs, Pt.cells, Pt.slots] at X38 l38 y38 z38 st38 hQ38
            subst l38 y38 z38
            obtain ⟨rfl, Nq38, Kq38, pq38_0, pq38_1, pq38_2, pq38_3, pq38_4, pq38_5, pq38_6⟩ := hQ38
            refine Goes.run st38 ?_
            have N38 := Fr.app N35 Nq38
            obtain ⟨h38, e38⟩ : ∃ z, T38.heap = z := ⟨_, rfl⟩
            rw [e38] at Kq38 pq38_0 pq38_1 pq38_2 pq38_3 pq38_4 pq38_5 pq38_6
            have Z38 : n0 ≤ h38.size := Nat.le_trans Z35 Kq38.1
            have Od38 := Od35.keep Kq38 (allS gg9 all0)
            show Goes p e below s _ _ _ (T38.setTop (mkF m 185 #[.val (.long q1), .second, .val (.int p2), .val (.long q3), .second, .val (.long q4), .second, .val (.long q5), .second, .val (.int p6), .val (.int (p2.toInt16.toInt32)), .val (.int j1_0), .val (.int (0 : Int32)), .val (.int j2_0), .val (.ref b3), .val (.ref b6), .val .null, .val (.ref b6), .val (.ref b9)] []))
            refine Goes.pre (fun t kt => XS.aload X38.here hx rfl (hb hby at_185) rfl rfl kt) ?_
            show Goes p e below s _ _ _ (T38.setTop (mkF m 187 #[.val (.long q1), .second, .val (.int p2), .val (.long q3), .second, .val (.long q4), .second, .val (.long q5), .second, .val (.int p6), .val (.int (p2.toInt16.toInt32)), .val (.int j1_0), .val (.int (0 : Int32)), .val (.int j2_0), .val (.ref b3), .val (.ref b6), .val .null, .val (.ref b6), .val (.ref b9)] [(.ref b9)]))
            have fc42 : Exa Z h38 b9 "com/example/seqlint/seqlint/kafka/Transaction" := (fc37.keep Kq38)
            obtain ⟨cq41, kq41, qa41, qb41, qc41⟩ := isOf hZ e38 fc42
            obtain ⟨_, _, ⟨T40, L40, k40, n40⟩, -, X40, ⟨Lc40, hQ40, l40, y40, z40⟩, st40⟩ := X38.virtualBack hx (y := (⟨"com/example/seqlint/seqlint/kafka/Transaction", "isOpen", "()Z"⟩ : MethodName)) (z := (⟨"com/example/seqlint/seqlint/kafka/Transaction", "isOpen", "()Z"⟩ : MethodName)) hown (mvT hZ (hw _ (List.mem_of_getElem? (i := 62) rfl))) (mvT hZ (hw _ (List.mem_of_getElem? (i := 63) rfl))) (notFace_of_selects (args := #[]) (mvT hZ (hw _ (List.mem_of_getElem? (i := 65) rfl)))) (mvT hZ (hw _ (List.mem_of_getElem? (i := 65) rfl))) (mvT hZ (hw _ (List.mem_of_getElem? (i := 64) rfl))) (by decide) (backOf (W := 0) (rm9 l Z a0 hw [] b9 h38 n0 Z38 pq38_0) hZ (hw _ (List.mem_of_getElem? (i := 66) rfl)) (hw _ (List.mem_of_getElem? (i := 32) rfl)) (by decide) (by decide)) qa41 qc41 (g := (mkF m 187 #[.val (.long q1), .second, .val (.int p2), .val (.long q3), .second, .val (.long q4), .second, .val (.long q5), .second, .val (.int p6), .val (.int (p2.toInt16.toInt32)), .val (.int j1_0), .val (.int (0 : Int32)), .val (.int j2_0), .val (.ref b3), .val (.ref b6), .val .null, .val (.ref b6), .val (.ref b9)] [(.ref b9)])) rfl (by rw [hml]; rfl) (Steps.refl _) (argsL := []) (rest := []) (lenOf pd_4 rfl) rfl (by show 2 * 0 + _ ≤ _; exact Nat.le_of_eq rfl) (hb hby at_187) (fun _ _ => ⟨rfl, e38, (by decide : 4 + 0 ≤ _), (by decide : 17 + 0 ≤ _)⟩)
            dsimp only [Pt.U, Pt.locs, Pt.cells, Pt.slots] at X40 l40 y40 z40 st40 hQ40
            subst l40 y40 z40
            obtain ⟨rfl, Nq40, eq40⟩ := hQ40
            refine Goes.run st40 ?_
            have N40 := Fr.app N38 Nq40
            show Goes p e below s _ _ _ (T40.setTop (mkF m 190 #[.val (.long q1), .second, .val (.int p2), .val (.long q3), .second, .val (.long q4), .second, .val (.long q5), .second, .val (.int p6), .val (.int (p2.toInt16.toInt32)), .val (.int j1_0), .val (.int (0 : Int32)), .val (.int j2_0), .val (.ref b3), .val (.ref b6), .val .null, .val (.ref b6), .val (.ref b9)] [(.int (1 : Int32))]))
            refine Goes.pre (fun t kt => XS.ifNo X40.here hx rfl (hb hby at_190) rfl (Jvm.Free.XT.i0_eq_f ((by decide))) kt) ?_
            show Goes p e below s _ _ _ (T40.setTop (mkF m 193 #[.val (.long q1), .second, .val (.int p2), .val (.long q3), .second, .val (.long q4), .second, .val (.long q5), .second, .val (.int p6), .val (.int (p2.toInt16.toInt32)), .val (.int j1_0), .val (.int (0 : Int32)), .val (.int j2_0), .val (.ref b3), .val (.ref b6), .val .null, .val (.ref b6), .val (.ref b9)] []))
            refine Goes.pre (fun t kt => XS.aload X40.here hx rfl (hb hby at_193) rfl rfl kt) ?_
            show Goes p e below s _ _ _ (T40.setTop (mkF m 195 #[.val (.long q1), .second, .val (.int p2), .val (.long q3), .second, .val (.long q4), .second, .val (.long q5), .second, .val (.int p6), .val (.int (p2.toInt16.toInt32)), .val (.int j1_0), .val (.int (0 : Int32)), .val (.int j2_0), .val (.ref b3), .val (.ref b6), .val .null, .val (.ref b6), .val (.ref b9)] [(.ref b9)]))
            obtain ⟨cq44, kq44, qa44, qb44, qc44⟩ := isOf hZ eq40 fc42
            obtain ⟨_, _, ⟨T43, L43, k43, n43⟩, -, X43, ⟨Lc43, hQ43, l43, y43, z43⟩, st43⟩ := X40.virtualBack hx (y := (⟨"com/example/seqlint/seqlint/kafka/Transaction", "epoch", "()S"⟩ : MethodName)) (z := (⟨"com/example/seqlint/seqlint/kafka/Transaction", "epoch", "()S"⟩ : MethodName)) hown (mvT hZ (hw _ (List.mem_of_getElem? (i := 67) rfl))) (mvT hZ (hw _ (List.mem_of_getElem? (i := 68) rfl))) (notFace_of_selects (args := #[]) (mvT hZ (hw _ (List.mem_of_getElem? (i := 70) rfl)))) (mvT hZ (hw _ (List.mem_of_getElem? (i := 70) rfl))) (mvT hZ (hw _ (List.mem_of_getElem? (i := 69) rfl))) (by decide) (backOf (W := 0) (rm10 l Z a0 hw [] b9 (p2.toInt16.toInt32) h38 n0 Z38 pq38_1) hZ (hw _ (List.mem_of_getElem? (i := 71) rfl)) (hw _ (List.mem_of_getElem? (i := 32) rfl)) (by decide) (by decide)) qa44 qc44 (g := (mkF m 195 #[.val (.long q1), .second, .val (.int p2), .val (.long q3), .second, .val (.long q4), .second, .val (.long q5), .second, .val (.int p6), .val (.int (p2.toInt16.toInt32)), .val (.int j1_0), .val (.int (0 : Int32)), .val (.int j2_0), .val (.ref b3), .val (.ref b6), .val .null, .val (.ref b6), .val (.ref b9)] [(.ref b9)])) rfl (by rw [hml]; rfl) (Steps.refl _) (argsL := []) (rest := []) (lenOf pd_5 rfl) rfl (by show 2 * 0 + _ ≤ _; exact Nat.le_of_eq rfl) (hb hby at_195) (fun _ _ => ⟨rfl, eq40, (by decide : 4 + 0 ≤ _), (by decide : 17 + 0 ≤ _)⟩)
            dsimp only [Pt.U, Pt.locs, Pt.cells, Pt.slots] at X43 l43 y43 z43 st43 hQ43
            subst l43 y43 z43
            obtain ⟨rfl, Nq43, eq43⟩ := hQ43
            refine Goes.run st43 ?_
            have N43 := Fr.app N40 Nq43
            show Goes p e below s _ _ _ (T43.setTop (mkF m 198 #[.val (.long q1), .second, .val (.int p2), .val (.long q3), .second, .val (.long q4), .second, .val (.long q5), .second, .val (.int p6), .val (.int (p2.toInt16.toInt32)), .val (.int j1_0), .val (.int (0 : Int32)), .val (.int j2_0), .val (.ref b3), .val (.ref b6), .val .null, .val (.ref b6), .val (.ref b9)] [(.int (((p2.toInt16.toInt32).toInt16.toInt32).toInt16.toInt32))]))
            refine Goes.pre (fun t kt => XS.iload X43.here hx rfl (hb hby at_198) rfl kt) ?_
            show Goes p e below s _ _ _ (T43.setTop (mkF m 200 #[.val (.long q1), .second, .val (.int p2), .val (.long q3), .second, .val (.long q4), .second, .val (.long q5), .second, .val (.int p6), .val (.int (p2.toInt16.toInt32)), .val (.int j1_0), .val (.int (0 : Int32)), .val (.int j2_0), .val (.ref b3), .val (.ref b6), .val .null, .val (.ref b6), .val (.ref b9)] [(.int (p2.toInt16.toInt32)), (.int (((p2.toInt16.toInt32).toInt16.toInt32).toInt16.toInt32))]))
            refine Goes.pre (fun t kt => XS.icmpNo X43.here hx rfl (hb hby at_200) rfl (Jvm.Free.XT.ii_ne_f ((own_short _))) kt) ?_
            show Goes p e below s _ _ _ (T43.setTop (mkF m 203 #[.val (.long q1), .second, .val (.int p2), .val (.long q3), .second, .val (.long q4), .second, .val (.long q5), .second, .val (.int p6), .val (.int (p2.toInt16.toInt32)), .val (.int j1_0), .val (.int (0 : Int32)), .val (.int j2_0), .val (.ref b3), .val (.ref b6), .val .null, .val (.ref b6), .val (.ref b9)] []))
            refine Goes.pre (fun t kt => XS.aload X43.here hx rfl (hb hby at_203) rfl rfl kt) ?_
            show Goes p e below s _ _ _ (T43.setTop (mkF m 205 #[.val (.long q1), .second, .val (.int p2), .val (.long q3), .second, .val (.long q4), .second, .val (.long q5), .second, .val (.int p6), .val (.int (p2.toInt16.toInt32)), .val (.int j1_0), .val (.int (0 : Int32)), .val (.int j2_0), .val (.ref b3), .val (.ref b6), .val .null, .val (.ref b6), .val (.ref b9)] [(.ref b9)]))
            obtain ⟨cq46, kq46, qa46, qb46, qc46⟩ := isOf hZ eq43 fc42
            obtain ⟨_, _, ⟨T45, L45, k45, n45⟩, -, X45, ⟨Lc45, hQ45, l45, y45, z45⟩, st45⟩ := X43.virtualBack hx (y := (⟨"com/example/seqlint/seqlint/kafka/Transaction", "hasEpoch", "()Z"⟩ : MethodName)) (z := (⟨"com/example/seqlint/seqlint/kafka/Transaction", "hasEpoch", "()Z"⟩ : MethodName)) hown (mvT hZ (hw _ (List.mem_of_getElem? (i := 72) rfl))) (mvT hZ (hw _ (List.mem_of_getElem? (i := 73) rfl))) (notFace_of_selects (args := #[]) (mvT hZ (hw _ (List.mem_of_getElem? (i := 75) rfl)))) (mvT hZ (hw _ (List.mem_of_getElem? (i := 75) rfl))) (mvT hZ (hw _ (List.mem_of_getElem? (i := 74) rfl))) (by decide) (backOf (W := 0) (rm11 l Z a0 hw [] b9 (p2.toInt16.toInt32) h38 n0 Z38 pq38_1 (own_noMin _)) hZ (hw _ (List.mem_of_getElem? (i := 76) rfl)) (hw _ (List.mem_of_getElem? (i := 32) rfl)) (by decide) (by decide)) qa46 qc46 (g := (mkF m 205 #[.val (.long q1), .second, .val (.int p2), .val (.long q3), .second, .val (.long q4), .second, .val (.long q5), .second, .val (.int p6), .val (.int (p2.toInt16.toInt32)), .val (.int j1_0), .val (.int (0 : Int32)), .val (.int j2_0), .val (.ref b3), .val (.ref b6), .val .null, .val (.ref b6), .val (.ref b9)] [(.ref b9)])) rfl (by rw [hml]; rfl) (Steps.refl _) (argsL := []) (rest := []) (lenOf pd_4 rfl) rfl (by show 2 * 0 + _ ≤ _; exact Nat.le_of_eq rfl) (hb hby at_205) (fun _ _ => ⟨rfl, eq43, (by decide : 4 + 0 ≤ _), (by decide : 17 + 0 ≤ _)⟩)
            dsimp only [Pt.U, Pt.locs, Pt.cells, Pt.slots] at X45 l45 y45 z45 st45 hQ45
            subst l45 y45 z45
            obtain ⟨rfl, Nq45, eq45⟩ := hQ45
            refine Goes.run st45 ?_
            have N45 := Fr.app N43 Nq45
            show Goes p e below s _ _ _ (T45.setTop (mkF m 208 #[.val (.long q1), .second, .val (.int p2), .val (.long q3), .second, .val (.long q4), .second, .val (.long q5), .second, .val (.int p6), .val (.int (p2.toInt16.toInt32)), .val (.int j1_0), .val (.int (0 : Int32)), .val (.int j2_0), .val (.ref b3), .val (.ref b6), .val .null, .val (.ref b6), .val (.ref b9)] [(.int (1 : Int32))]))
            refine Goes.pre (fun t kt => XS.ifNo X45.here hx rfl (hb hby at_208) rfl (Jvm.Free.XT.i0_eq_f ((by decide))) kt) ?_
            show Goes p e below s _ _ _ (T45.setTop (mkF m 211 #[.val (.long q1), .second, .val (.int p2), .val (.long q3), .second, .val (.long q4), .second, .val (.long q5), .second, .val (.int p6), .val (.int (p2.toInt16.toInt32)), .val (.int j1_0), .val (.int (0 : Int32)), .val (.int j2_0), .val (.ref b3), .val (.ref b6), .val .null, .val (.ref b6), .val (.ref b9)] []))
            refine Goes.pre (fun t kt => XS.aload X45.here hx rfl (hb hby at_211) rfl rfl kt) ?_
            show Goes p e below s _ _ _ (T45.setTop (mkF m 213 #[.val (.long q1), .second, .val (.int p2), .val (.long q3), .second, .val (.long q4), .second, .val (.long q5), .second, .val (.int p6), .val (.int (p2.toInt16.toInt32)), .val (.int j1_0), .val (.int (0 : Int32)), .val (.int j2_0), .val (.ref b3), .val (.ref b6), .val .null, .val (.ref b6), .val (.ref b9)] [(.ref b9)]))
            obtain ⟨cq48, kq48, qa48, qb48, qc48⟩ := isOf hZ eq45 fc42
            obtain ⟨_, _, ⟨T47, L47, k47, n47⟩, -, X47, ⟨Lc47, hQ47, l47, y47, z47⟩, st47⟩ := X45.virtualBack hx (y := (⟨"com/example/seqlint/seqlint/kafka/Transaction", "firstOffset", "()J"⟩ : MethodName)) (z := (⟨"com/example/seqlint/seqlint/kafka/Transaction", "firstOffset", "()J"⟩ : MethodName)) hown (mvT hZ (hw _ (List.mem_of_getElem? (i := 77) rfl))) (mvT hZ (hw _ (List.mem_of_getElem? (i := 78) rfl))) (notFace_of_selects (args := #[]) (mvT hZ (hw _ (List.mem_of_getElem? (i := 80) rfl)))) (mvT hZ (hw _ (List.mem_of_getElem? (i := 80) rfl))) (mvT hZ (hw _ (List.mem_of_getElem? (i := 79) rfl))) (by decide) (backOf (W := 0) (rm12 l Z a0 hw [] b9 q3 h38 n0 Z38 pq38_2) hZ (hw _ (List.mem_of_getElem? (i := 81) rfl)) (hw _ (List.mem_of_getElem? (i := 32) rfl)) (by decide) (by decide)) qa48 qc48 (g := (mkF m 213 #[.val (.long q1), .second, .val (.int p2), .val (.long q3), .second, .val (.long q4), .second, .val (.long q5), .second, .val (.int p6), .val (.int (p2.toInt16.toInt32)), .val (.int j1_0), .val (.int (0 : Int32)), .val (.int j2_0), .val (.ref b3), .val (.ref b6), .val .null, .val (.ref b6), .val (.ref b9)] [(.ref b9)])) rfl (by rw [hml]; rfl) (Steps.refl _) (argsL := []) (rest := []) (lenOf pd_6 rfl) rfl (by show 2 * 0 + _ ≤ _; exact Nat.le_of_eq rfl) (hb hby at_213) (fun _ _ => ⟨rfl, eq45, (by decide : 4 + 0 ≤ _), (by decide : 17 + 0 ≤ _)⟩)
            dsimp only [Pt.U, Pt.locs, Pt.cells, Pt.slots] at X47 l47 y47 z47 st47 hQ47
            subst l47 y47 z47
            obtain ⟨rfl, Nq47, eq47⟩ := hQ47
            refine Goes.run st47 ?_
            have N47 := Fr.app N45 Nq47
            show Goes p e below s _ _ _ (T47.setTop (mkF m 216 #[.val (.long q1), .second, .val (.int p2), .val (.long q3), .second, .val (.long q4), .second, .val (.long q5), .second, .val (.int p6), .val (.int (p2.toInt16.toInt32)), .val (.int j1_0), .val (.int (0 : Int32)), .val (.int j2_0), .val (.ref b3), .val (.ref b6), .val .null, .val (.ref b6), .val (.ref b9)] [(.long q3)]))
            refine Goes.pre (fun t kt => XS.lloadN X47.here hx rfl (hb hby at_216) rfl kt) ?_
            show Goes p e below s _ _ _ (T47.setTop (mkF m 217 #[.val (.long q1), .second, .val (.int p2), .val (.long q3), .second, .val (.long q4), .second, .val (.long q5), .second, .val (.int p6), .val (.int (p2.toInt16.toInt32)), .val (.int j1_0), .val (.int (0 : Int32)), .val (.int j2_0), .val (.ref b3), .val (.ref b6), .val .null, .val (.ref b6), .val (.ref b9)] [(.long q3), (.long q3)]))
            refine Goes.pre (fun t kt => XS.lcmp X47.here hx rfl (hb hby at_217) rfl kt) ?_
            show Goes p e below s _ _ _ (T47.setTop (mkF m 218 #[.val (.long q1), .second, .val (.int p2), .val (.long q3), .second, .val (.long q4), .second, .val (.long q5), .second, .val (.int p6), .val (.int (p2.toInt16.toInt32)), .val (.int j1_0), .val (.int (0 : Int32)), .val (.int j2_0), .val (.ref b3), .val (.ref b6), .val .null, .val (.ref b6), .val (.ref b9)] [(.int (lcmpW q3 q3))]))
            refine Goes.pre (fun t kt => XS.ifNo X47.here hx rfl (hb hby at_218) rfl (Jvm.Free.XT.i0_ne_f ((lw_eq _ _).mpr rfl)) kt) ?_
            show Goes p e below s _ _ _ (T47.setTop (mkF m 221 #[.val (.long q1), .second, .val (.int p2), .val (.long q3), .second, .val (.long q4), .second, .val (.long q5), .second, .val (.int p6), .val (.int (p2.toInt16.toInt32)), .val (.int j1_0), .val (.int (0 : Int32)), .val (.int j2_0), .val (.ref b3), .val (.ref b6), .val .null, .val (.ref b6), .val (.ref b9)] []))
            refine Goes.pre (fun t kt => XS.aload X47.here hx rfl (hb hby at_221) rfl rfl kt) ?_
            show Goes p e below s _ _ _ (T47.setTop (mkF m 223 #[.val (.long q1), .second, .val (.int p2), .val (.long q3), .second, .val (.long q4), .second, .val (.long q5), .second, .val (.int p6), .val (.int (p2.toInt16.toInt32)), .val (.int j1_0), .val (.int (0 : Int32)), .val (.int j2_0), .val (.ref b3), .val (.ref b6), .val .null, .val (.ref b6), .val (.ref b9)] [(.ref b9)]))
            obtain ⟨cq50, kq50, qa50, qb50, qc50⟩ := isOf hZ eq47 fc42
            obtain ⟨_, _, ⟨T49, L49, k49, n49⟩, -, X49, ⟨Lc49, hQ49, l49, y49, z49⟩, st49⟩ := X47.virtualBack hx (y := (⟨"com/example/seqlint/seqlint/kafka/Transaction", "position", "()J"⟩ : MethodName)) (z := (⟨"com/example/seqlint/seqlint/kafka/Transaction", "position", "()J"⟩ : MethodName)) hown (mvT hZ (hw _ (List.mem_of_getElem? (i := 82) rfl))) (mvT hZ (hw _ (List.mem_of_getElem? (i := 83) rfl))) (notFace_of_selects (args := #[]) (mvT hZ (hw _ (List.mem_of_getElem? (i := 85) rfl)))) (mvT hZ (hw _ (List.mem_of_getElem? (i := 85) rfl))) (mvT hZ (hw _ (List.mem_of_getElem? (i := 84) rfl))) (by decide) (backOf (W := 0) (rm13 l Z a0 hw [] b9 q4 h38 n0 Z38 pq38_3) hZ (hw _ (List.mem_of_getElem? (i := 86) rfl)) (hw _ (List.mem_of_getElem? (i := 32) rfl)) (by decide) (by decide)) qa50 qc50 (g := (mkF m 223 #[.val (.long q1), .second, .val (.int p2), .val (.long q3), .second, .val (.long q4), .second, .val (.long q5), .second, .val (.int p6), .val (.int (p2.toInt16.toInt32)), .val (.int j1_0), .val (.int (0 : Int32)), .val (.int j2_0), .val (.ref b3), .val (.ref b6), .val .null, .val (.ref b6), .val (.ref b9)] [(.ref b9)])) rfl (by rw [hml]; rfl) (Steps.refl _) (argsL := []) (rest := []) (lenOf pd_6 rfl) rfl (by show 2 * 0 + _ ≤ _; exact Nat.le_of_eq rfl) (hb hby at_223) (fun _ _ => ⟨rfl, eq47, (by decide : 4 + 0 ≤ _), (by decide : 17 + 0 ≤ _)⟩)
            dsimp only [Pt.U, Pt.locs, Pt.cells, Pt.slots] at X49 l49 y49 z49 st49 hQ49
            subst l49 y49 z49
            obtain ⟨rfl, Nq49, eq49⟩ := hQ49
            refine Goes.run st49 ?_
            have N49 := Fr.app N47 Nq49
            show Goes p e below s _ _ _ (T49.setTop (mkF m 226 #[.val (.long q1), .second, .val (.int p2), .val (.long q3), .second, .val (.long q4), .second, .val (.long q5), .second, .val (.int p6), .val (.int (p2.toInt16.toInt32)), .val (.int j1_0), .val (.int (0 : Int32)), .val (.int j2_0), .val (.ref b3), .val (.ref b6), .val .null, .val (.ref b6), .val (.ref b9)] [(.long q4)]))
            refine Goes.pre (fun t kt => XS.lload X49.here hx rfl (hb hby at_226) rfl kt) ?_
            show Goes p e below s _ _ _ (T49.setTop (mkF m 228 #[.val (.long q1), .second, .val (.int p2), .val (.long q3), .second, .val (.long q4), .second, .val (.long q5), .second, .val (.int p6), .val (.int (p2.toInt16.toInt32)), .val (.int j1_0), .val (.int (0 : Int32)), .val (.int j2_0), .val (.ref b3), .val (.ref b6), .val .null, .val (.ref b6), .val (.ref b9)] [(.long q4), (.long q4)]))
            refine Goes.pre (fun t kt => XS.lcmp X49.here hx rfl (hb hby at_228) rfl kt) ?_
            show Goes p e below s _ _ _ (T49.setTop (mkF m 229 #[.val (.long q1), .second, .val (.int p2), .val (.long q3), .second, .val (.long q4), .second, .val (.long q5), .second, .val (.int p6), .val (.int (p2.toInt16.toInt32)), .val (.int j1_0), .val (.int (0 : Int32)), .val (.int j2_0), .val (.ref b3), .val (.ref b6), .val .null, .val (.ref b6), .val (.ref b9)] [(.int (lcmpW q4 q4))]))
            refine Goes.pre (fun t kt => XS.ifNo X49.here hx rfl (hb hby at_229) rfl (Jvm.Free.XT.i0_ne_f ((lw_eq _ _).mpr rfl)) kt) ?_
            show Goes p e below s _ _ _ (T49.setTop (mkF m 232 #[.val (.long q1), .second, .val (.int p2), .val (.long q3), .second, .val (.long q4), .second, .val (.long q5), .second, .val (.int p6), .val (.int (p2.toInt16.toInt32)), .val (.int j1_0), .val (.int (0 : Int32)), .val (.int j2_0), .val (.ref b3), .val (.ref b6), .val .null, .val (.ref b6), .val (.ref b9)] []))
            refine Goes.pre (fun t kt => XS.aload X49.here hx rfl (hb hby at_232) rfl rfl kt) ?_
            show Goes p e below s _ _ _ (T49.setTop (mkF m 234 #[.val (.long q1), .second, .val (.int p2), .val (.long q3), .second, .val (.long q4), .second, .val (.long q5), .second, .val (.int p6), .val (.int (p2.toInt16.toInt32)), .val (.int j1_0), .val (.int (0 : Int32)), .val (.int j2_0), .val (.ref b3), .val (.ref b6), .val .null, .val (.ref b6), .val (.ref b9)] [(.ref b9)]))
            obtain ⟨cq52, kq52, qa52, qb52, qc52⟩ := isOf hZ eq49 fc42
            obtain ⟨_, _, ⟨T51, L51, k51, n51⟩, -, X51, ⟨Lc51, hQ51, l51, y51, z51⟩, st51⟩ := X49.virtualBack hx (y := (⟨"com/example/seqlint/seqlint/kafka/Transaction", "file", "()Ljava/lang/String;"⟩ : MethodName)) (z := (⟨"com/example/seqlint/seqlint/kafka/Transaction", "file", "()Ljava/lang/String;"⟩ : MethodName)) hown (mvT hZ (hw _ (List.mem_of_getElem? (i := 87) rfl))) (mvT hZ (hw _ (List.mem_of_getElem? (i := 88) rfl))) (notFace_of_selects (args := #[]) (mvT hZ (hw _ (List.mem_of_getElem? (i := 90) rfl)))) (mvT hZ (hw _ (List.mem_of_getElem? (i := 90) rfl))) (mvT hZ (hw _ (List.mem_of_getElem? (i := 89) rfl))) (by decide) (backOf (W := 0) (rm14n l Z a0 hw [] b9 h38 n0 Z38 pq38_4) hZ (hw _ (List.mem_of_getElem? (i := 91) rfl)) (hw _ (List.mem_of_getElem? (i := 32) rfl)) (by decide) (by decide)) qa52 qc52 (g := (mkF m 234 #[.val (.long q1), .second, .val (.int p2), .val (.long q3), .second, .val (.long q4), .second, .val (.long q5), .second, .val (.int p6), .val (.int (p2.toInt16.toInt32)), .val (.int j1_0), .val (.int (0 : Int32)), .val (.int j2_0), .val (.ref b3), .val (.ref b6), .val .null, .val (.ref b6), .val (.ref b9)] [(.ref b9)])) rfl (by rw [hml]; rfl) (Steps.refl _) (argsL := []) (rest := []) (lenOf pd_7 rfl) rfl (by show 2 * 0 + _ ≤ _; exact Nat.le_of_eq rfl) (hb hby at_234) (fun _ _ => ⟨rfl, eq49, (by decide : 4 + 0 ≤ _), (by decide : 17 + 0 ≤ _)⟩)
            dsimp only [Pt.U, Pt.locs, Pt.cells, Pt.slots] at X51 l51 y51 z51 st51 hQ51
            subst l51 y51 z51
            obtain ⟨rfl, Nq51, eq51⟩ := hQ51
            refine Goes.run st51 ?_
            have N51 := Fr.app N49 Nq51
            show Goes p e below s _ _ _ (T51.setTop (mkF m 237 #[.val (.long q1), .second, .val (.int p2), .val (.long q3), .second, .val (.long q4), .second, .val (.long q5), .second, .val (.int p6), .val (.int (p2.toInt16.toInt32)), .val (.int j1_0), .val (.int (0 : Int32)), .val (.int j2_0), .val (.ref b3), .val (.ref b6), .val .null, .val (.ref b6), .val (.ref b9)] [.null]))
            refine Goes.pre (fun t kt => XS.aload X51.here hx rfl (hb hby at_237) rfl rfl kt) ?_
            show Goes p e below s _ _ _ (T51.setTop (mkF m 239 #[.val (.long q1), .second, .val (.int p2), .val (.long q3), .second, .val (.long q4), .second, .val (.long q5), .second, .val (.int p6), .val (.int (p2.toInt16.toInt32)), .val (.int j1_0), .val (.int (0 : Int32)), .val (.int j2_0), .val (.ref b3), .val (.ref b6), .val .null, .val (.ref b6), .val (.ref b9)] [.null, .null]))
            refine Goes.pre (fun t kt => Jvm.RoadKit.acmp (g := (mkF m 239 #[.val (.long q1), .second, .val (.int p2), .val (.long q3), .second, .val (.long q4), .second, .val (.long q5), .second, .val (.int p6), .val (.int (p2.toInt16.toInt32)), .val (.int j1_0), .val (.int (0 : Int32)), .val (.int j2_0), .val (.ref b3), .val (.ref b6), .val .null, .val (.ref b6), .val (.ref b9)] [.null, .null])) X51 hx rfl rfl rfl (pc0 := 239) (pc' := 242) (same := true) rfl (hb hby at_239) rfl (decide_eq_true rfl) (by decide) (by decide) kt) ?_
            show Goes p e below s _ _ _ (T51.setTop (mkF m 242 #[.val (.long q1), .second, .val (.int p2), .val (.long q3), .second, .val (.long q4), .second, .val (.long q5), .second, .val (.int p6), .val (.int (p2.toInt16.toInt32)), .val (.int j1_0), .val (.int (0 : Int32)), .val (.int j2_0), .val (.ref b3), .val (.ref b6), .val .null, .val (.ref b6), .val (.ref b9)] []))
            refine Goes.pre (fun t kt => XS.aload X51.here hx rfl (hb hby at_242) rfl rfl kt) ?_
            show Goes p e below s _ _ _ (T51.setTop (mkF m 244 #[.val (.long q1), .second, .val (.int p2), .val (.long q3), .second, .val (.long q4), .second, .val (.long q5), .second, .val (.int p6), .val (.int (p2.toInt16.toInt32)), .val (.int j1_0), .val (.int (0 : Int32)), .val (.int j2_0), .val (.ref b3), .val (.ref b6), .val .null, .val (.ref b6), .val (.ref b9)] [(.ref b9)]))
            obtain ⟨cq54, kq54, qa54, qb54, qc54⟩ := isOf hZ eq51 fc42
            obtain ⟨_, _, ⟨T53, L53, k53, n53⟩, -, X53, ⟨Lc53, hQ53, l53, y53, z53⟩, st53⟩ := X51.virtualBack hx (y := (⟨"com/example/seqlint/seqlint/kafka/Transaction", "firstTimestamp", "()J"⟩ : MethodName)) (z := (⟨"com/example/seqlint/seqlint/kafka/Transaction", "firstTimestamp", "()J"⟩ : MethodName)) hown (mvT hZ (hw _ (List.mem_of_getElem? (i := 92) rfl))) (mvT hZ (hw _ (List.mem_of_getElem? (i := 93) rfl))) (notFace_of_selects (args := #[]) (mvT hZ (hw _ (List.mem_of_getElem? (i := 95) rfl)))) (mvT hZ (hw _ (List.mem_of_getElem? (i := 95) rfl))) (mvT hZ (hw _ (List.mem_of_getElem? (i := 94) rfl))) (by decide) (backOf (W := 0) (rm15 l Z a0 hw [] b9 q5 h38 n0 Z38 pq38_5) hZ (hw _ (List.mem_of_getElem? (i := 96) rfl)) (hw _ (List.mem_of_getElem? (i := 32) rfl)) (by decide) (by decide)) qa54 qc54 (g := (mkF m 244 #[.val (.long q1), .second, .val (.int p2), .val (.long q3), .second, .val (.long q4), .second, .val (.long q5), .second, .val (.int p6), .val (.int (p2.toInt16.toInt32)), .val (.int j1_0), .val (.int (0 : Int32)), .val (.int j2_0), .val (.ref b3), .val (.ref b6), .val .null, .val (.ref b6), .val (.ref b9)] [(.ref b9)])) rfl (by rw [hml]; rfl) (Steps.refl _) (argsL := []) (rest := []) (lenOf pd_6 rfl) rfl (by show 2 * 0 + _ ≤ _; exact Nat.le_of_eq rfl) (hb hby at_244) (fun _ _ => ⟨rfl, eq51, (by decide : 4 + 0 ≤ _), (by decide : 17 + 0 ≤ _)⟩)
            dsimp only [Pt.U, Pt.locs, Pt.cells, Pt.slots] at X53 l53 y53 z53 st53 hQ53
            subst l53 y53 z53
            obtain ⟨rfl, Nq53, eq53⟩ := hQ53
            refine Goes.run st53 ?_
            have N53 := Fr.app N51 Nq53
            show Goes p e below s _ _ _ (T53.setTop (mkF m 247 #[.val (.long q1), .second, .val (.int p2), .val (.long q3), .second, .val (.long q4), .second, .val (.long q5), .second, .val (.int p6), .val (.int (p2.toInt16.toInt32)), .val (.int j1_0), .val (.int (0 : Int32)), .val (.int j2_0), .val (.ref b3), .val (.ref b6), .val .null, .val (.ref b6), .val (.ref b9)] [(.long q5)]))
            refine Goes.pre (fun t kt => XS.lload X53.here hx rfl (hb hby at_247) rfl kt) ?_
            show Goes p e below s _ _ _ (T53.setTop (mkF m 249 #[.val (.long q1), .second, .val (.int p2), .val (.long q3), .second, .val (.long q4), .second, .val (.long q5), .second, .val (.int p6), .val (.int (p2.toInt16.toInt32)), .val (.int j1_0), .val (.int (0 : Int32)), .val (.int j2_0), .val (.ref b3), .val (.ref b6), .val .null, .val (.ref b6), .val (.ref b9)] [(.long q5), (.long q5)]))
            refine Goes.pre (fun t kt => XS.lcmp X53.here hx rfl (hb hby at_249) rfl kt) ?_
            show Goes p e below s _ _ _ (T53.setTop (mkF m 250 #[.val (.long q1), .second, .val (.int p2), .val (.long q3), .second, .val (.long q4), .second, .val (.long q5), .second, .val (.int p6), .val (.int (p2.toInt16.toInt32)), .val (.int j1_0), .val (.int (0 : Int32)), .val (.int j2_0), .val (.ref b3), .val (.ref b6), .val .null, .val (.ref b6), .val (.ref b9)] [(.int (lcmpW q5 q5))]))
            refine Goes.pre (fun t kt => XS.ifNo X53.here hx rfl (hb hby at_250) rfl (Jvm.Free.XT.i0_ne_f ((lw_eq _ _).mpr rfl)) kt) ?_
            show Goes p e below s _ _ _ (T53.setTop (mkF m 253 #[.val (.long q1), .second, .val (.int p2), .val (.long q3), .second, .val (.long q4), .second, .val (.long q5), .second, .val (.int p6), .val (.int (p2.toInt16.toInt32)), .val (.int j1_0), .val (.int (0 : Int32)), .val (.int j2_0), .val (.ref b3), .val (.ref b6), .val .null, .val (.ref b6), .val (.ref b9)] []))
            refine Goes.pre (fun t kt => XS.aload X53.here hx rfl (hb hby at_253) rfl rfl kt) ?_
            show Goes p e below s _ _ _ (T53.setTop (mkF m 255 #[.val (.long q1), .second, .val (.int p2), .val (.long q3), .second, .val (.long q4), .second, .val (.long q5), .second, .val (.int p6), .val (.int (p2.toInt16.toInt32)), .val (.int j1_0), .val (.int (0 : Int32)), .val (.int j2_0), .val (.ref b3), .val (.ref b6), .val .null, .val (.ref b6), .val (.ref b9)] [(.ref b9)]))
            obtain ⟨cq56, kq56, qa56, qb56, qc56⟩ := isOf hZ eq53 fc42
            obtain ⟨_, _, ⟨T55, L55, k55, n55⟩, -, X55, ⟨Lc55, hQ55, l55, y55, z55⟩, st55⟩ := X53.virtualBack hx (y := (⟨"com/example/seqlint/seqlint/kafka/Transaction", "isReported", "()Z"⟩ : MethodName)) (z := (⟨"com/example/seqlint/seqlint/kafka/Transaction", "isReported", "()Z"⟩ : MethodName)) hown (mvT hZ (hw _ (List.mem_of_getElem? (i := 97) rfl))) (mvT hZ (hw _ (List.mem_of_getElem? (i := 98) rfl))) (notFace_of_selects (args := #[]) (mvT hZ (hw _ (List.mem_of_getElem? (i := 100) rfl)))) (mvT hZ (hw _ (List.mem_of_getElem? (i := 100) rfl))) (mvT hZ (hw _ (List.mem_of_getElem? (i := 99) rfl))) (by decide) (backOf (W := 0) (rm16 l Z a0 hw [] b9 (j1_0 &&& 1) h38 n0 Z38 pq38_6) hZ (hw _ (List.mem_of_getElem? (i := 101) rfl)) (hw _ (List.mem_of_getElem? (i := 32) rfl)) (by decide) (by decide)) qa56 qc56 (g := (mkF m 255 #[.val (.long q1), .second, .val (.int p2), .val (.long q3), .second, .val (.long q4), .second, .val (.long q5), .second, .val (.int p6), .val (.int (p2.toInt16.toInt32)), .val (.int j1_0), .val (.int (0 : Int32)), .val (.int j2_0), .val (.ref b3), .val (.ref b6), .val .null, .val (.ref b6), .val (.ref b9)] [(.ref b9)])) rfl (by rw [hml]; rfl) (Steps.refl _) (argsL := []) (rest := []) (lenOf pd_4 rfl) rfl (by show 2 * 0 + _ ≤ _; exact Nat.le_of_eq rfl) (hb hby at_255) (fun _ _ => ⟨rfl, eq53, (by decide : 4 + 0 ≤ _), (by decide : 17 + 0 ≤ _)⟩)
            dsimp only [Pt.U, Pt.locs, Pt.cells, Pt.slots] at X55 l55 y55 z55 st55 hQ55
            subst l55 y55 z55
            obtain ⟨rfl, Nq55, eq55⟩ := hQ55
            refine Goes.run st55 ?_
            have N55 := Fr.app N53 Nq55
            show Goes p e below s _ _ _ (T55.setTop (mkF m 258 #[.val (.long q1), .second, .val (.int p2), .val (.long q3), .second, .val (.long q4), .second, .val (.long q5), .second, .val (.int p6), .val (.int (p2.toInt16.toInt32)), .val (.int j1_0), .val (.int (0 : Int32)), .val (.int j2_0), .val (.ref b3), .val (.ref b6), .val .null, .val (.ref b6), .val (.ref b9)] [(.int ((j1_0 &&& 1) &&& 1))]))
            refine Goes.pre (fun t kt => XS.iload X55.here hx rfl (hb hby at_258) rfl kt) ?_
            show Goes p e below s _ _ _ (T55.setTop (mkF m 260 #[.val (.long q1), .second, .val (.int p2), .val (.long q3), .second, .val (.long q4), .second, .val (.long q5), .second, .val (.int p6), .val (.int (p2.toInt16.toInt32)), .val (.int j1_0), .val (.int (0 : Int32)), .val (.int j2_0), .val (.ref b3), .val (.ref b6), .val .null, .val (.ref b6), .val (.ref b9)] [(.int j1_0), (.int ((j1_0 &&& 1) &&& 1))]))
            refine Goes.pre (fun t kt => XS.icmpNo X55.here hx rfl (hb hby at_260) rfl (Jvm.Free.XT.ii_ne_f ((own_b1 hb8))) kt) ?_
            show Goes p e below s _ _ _ (T55.setTop (mkF m 263 #[.val (.long q1), .second, .val (.int p2), .val (.long q3), .second, .val (.long q4), .second, .val (.long q5), .second, .val (.int p6), .val (.int (p2.toInt16.toInt32)), .val (.int j1_0), .val (.int (0 : Int32)), .val (.int j2_0), .val (.ref b3), .val (.ref b6), .val .null, .val (.ref b6), .val (.ref b9)] []))
            refine Goes.pre (fun t kt => XS.iconst X55.here hx rfl (hb hby at_263) kt) ?_
            show Goes p e below s _ _ _ (T55.setTop (mkF m 264 #[.val (.long q1), .second, .val (.int p2), .val (.long q3), .second, .val (.long q4), .second, .val (.long q5), .second, .val (.int p6), .val (.int (p2.toInt16.toInt32)), .val (.int j1_0), .val (.int (0 : Int32)), .val (.int j2_0), .val (.ref b3), .val (.ref b6), .val .null, .val (.ref b6), .val (.ref b9)] [(.int (1 : Int32))]))
            refine Goes.pre (fun t kt => XS.goto X55.here hx rfl (pc0 := 264) (pc' := 268) rfl (hb hby at_264) (by decide) (by decide) kt) ?_
            show Goes p e below s _ _ _ (T55.setTop (mkF m 268 #[.val (.long q1), .second, .val (.int p2), .val (.long q3), .second, .val (.long q4), .second, .val (.long q5), .second, .val (.int p6), .val (.int (p2.toInt16.toInt32)), .val (.int j1_0), .val (.int (0 : Int32)), .val (.int j2_0), .val (.ref b3), .val (.ref b6), .val .null, .val (.ref b6), .val (.ref b9)] [(.int (1 : Int32))]))
            refine Goes.ret X55 (some (.int (1 : Int32))) (fun h => by rw [Bd.returns] at h; cases h) (BodyLoose.notSynchronized Bd) (by decide) (by decide) (fun fs hr => retN X55 hx (t := .boolean) Bd.returns (by simp) (hb hby at_268) hr) ?_
            show Q_rm0 Z q1 p2 q3 q4 q5 p6 G1 h0 n0 _ T55.heap _
            rw [eq55]
            exact ⟨rfl, N55⟩
          by_cases hc158 : j1_0 = (0 : Int32)
          · refine Goes.pre (fun t kt => XS.ifNo X12.here hx rfl (hb hby at_158) rfl (Jvm.Free.XT.i0_ne_f (hc158)) kt) ?_
            show Goes p e below s _ _ _ (T12.setTop (mkF m 161 #[.val (.long q1), .second, .val (.int p2), .val (.long q3), .second, .val (.long q4), .second, .val (.long q5), .second, .val (.int p6), .val (.int (p2.toInt16.toInt32)), .val (.int j1_0), .val (.int (0 : Int32)), .val (.int j2_0), .val (.ref b3), .val (.ref b6), .val .null, .val (.ref b6), .val (.ref b9)] [(.long (q5 ^^^ (-1 : Int64))), (.ref b6), (.long (q4 ^^^ (-1 : Int64))), (.long (q3 ^^^ (-1 : Int64))), (.int ((p2 ^^^ (-1 : Int32)).toInt16.toInt32)), (.ref b9)]))
            refine Goes.pre (fun t kt => XS.iconst X12.here hx rfl (hb hby at_161) kt) ?_
            show Goes p e below s _ _ _ (T12.setTop (mkF m 162 #[.val (.long q1), .second, .val (.int p2), .val (.long q3), .second, .val (.long q4), .second, .val (.long q5), .second, .val (.int p6), .val (.int (p2.toInt16.toInt32)), .val (.int j1_0), .val (.int (0 : Int32)), .val (.int j2_0), .val (.ref b3), .val (.ref b6), .val .null, .val (.ref b6), .val (.ref b9)] [(.int (1 : Int32)), (.long (q5 ^^^ (-1 : Int64))), (.ref b6), (.long (q4 ^^^ (-1 : Int64))), (.long (q3 ^^^ (-1 : Int64))), (.int ((p2 ^^^ (-1 : Int32)).toInt16.toInt32)), (.ref b9)]))
            refine Goes.pre (fun t kt => XS.goto X12.here hx rfl (pc0 := 162) (pc' := 166) rfl (hb hby at_162) (by decide) (by decide) kt) ?_
            show Goes p e below s _ _ _ (T12.setTop (mkF m 166 #[.val (.long q1), .second, .val (.int p2), .val (.long q3), .second, .val (.long q4), .second, .val (.long q5), .second, .val (.int p6), .val (.int (p2.toInt16.toInt32)), .val (.int j1_0), .val (.int (0 : Int32)), .val (.int j2_0), .val (.ref b3), .val (.ref b6), .val .null, .val (.ref b6), .val (.ref b9)] [(.int (1 : Int32)), (.long (q5 ^^^ (-1 : Int64))), (.ref b6), (.long (q4 ^^^ (-1 : Int64))), (.long (q3 ^^^ (-1 : Int64))), (.int ((p2 ^^^ (-1 : Int32)).toInt16.toInt32)), (.ref b9)]))
            exact J33 ((1 : Int32)) 
          · refine Goes.pre (fun t kt => XS.ifYes X12.here hx rfl (pc0 := 158) (pc' := 165) rfl (hb hby at_158) rfl (Jvm.Free.XT.i0_ne_t (hc158)) (by decide) (by decide) kt) ?_
            show Goes p e below s _ _ _ (T12.setTop (mkF m 165 #[.val (.long q1), .second, .val (.int p2), .val (.long q3), .second, .val (.long q4), .second, .val (.long q5), .second, .val (.int p6), .val (.int (p2.toInt16.toInt32)), .val (.int j1_0), .val (.int (0 : Int32)), .val (.int j2_0), .val (.ref b3), .val (.ref b6), .val .null, .val (.ref b6), .val (.ref b9)] [(.long (q5 ^^^ (-1 : Int64))), (.ref b6), (.long (q4 ^^^ (-1 : Int64))), (.long (q3 ^^^ (-1 : Int64))), (.int ((p2 ^^^ (-1 : Int32)).toInt16.toInt32)), (.ref b9)]))
            refine Goes.pre (fun t kt => XS.iconst X12.here hx rfl (hb hby at_165) kt) ?_
            show Goes p e below s _ _ _ (T12.setTop (mkF m 166 #[.val (.long q1), .second, .val (.int p2), .val (.long q3), .second, .val (.long q4), .second, .val (.long q5), .second, .val (.int p6), .val (.int (p2.toInt16.toInt32)), .val (.int j1_0), .val (.int (0 : Int32)), .val (.int j2_0), .val (.ref b3), .val (.ref b6), .val .null, .val (.ref b6), .val (.ref b9)] [(.int (0 : Int32)), (.long (q5 ^^^ (-1 : Int64))), (.ref b6), (.long (q4 ^^^ (-1 : Int64))), (.long (q3 ^^^ (-1 : Int64))), (.int ((p2 ^^^ (-1 : Int32)).toInt16.toInt32)), (.ref b9)]))
            exact J33 ((0 : Int32)) 
      by_cases hc36 : (p6 &&& (4 : Int32)) = (0 : Int32)
      · refine Goes.pre (fun t kt => XS.ifYes X0.here hx rfl (pc0 := 36) (pc' := 43) rfl (hb hby at_36) rfl (Jvm.Free.XT.i0_eq_t (hc36)) (by decide) (by decide) kt) ?_
        show Goes p e below s _ _ _ (s₁.setTop (mkF m 43 #[.val (.long q1), .second, .val (.int p2), .val (.long q3), .second, .val (.long q4), .second, .val (.long q5), .second, .val (.int p6), .val (.int (p2.toInt16.toInt32)), .val (.int j1_0), .val (.int (0 : Int32)), .unset, .unset, .unset, .unset, .unset, .unset] []))
        refine Goes.pre (fun t kt => XS.iconst X0.here hx rfl (hb hby at_43) kt) ?_
        show Goes p e below s _ _ _ (s₁.setTop (mkF m 44 #[.val (.long q1), .second, .val (.int p2), .val (.long q3), .second, .val (.long q4), .second, .val (.long q5), .second, .val (.int p6), .val (.int (p2.toInt16.toInt32)), .val (.int j1_0), .val (.int (0 : Int32)), .unset, .unset, .unset, .unset, .unset, .unset] [(.int (0 : Int32))]))
        exact J2 ((0 : Int32)) 
      · refine Goes.pre (fun t kt => XS.ifNo X0.here hx rfl (hb hby at_36) rfl (Jvm.Free.XT.i0_eq_f (hc36)) kt) ?_
        show Goes p e below s _ _ _ (s₁.setTop (mkF m 39 #[.val (.long q1), .second, .val (.int p2), .val (.long q3), .second, .val (.long q4), .second, .val (.long q5), .second, .val (.int p6), .val (.int (p2.toInt16.toInt32)), .val (.int j1_0), .val (.int (0 : Int32)), .unset, .unset, .unset, .unset, .unset, .unset] []))
        refine Goes.pre (fun t kt => XS.iconst X0.here hx rfl (hb hby at_39) kt) ?_
        show Goes p e below s _ _ _ (s₁.setTop (mkF m 40 #[.val (.long q1), .second, .val (.int p2), .val (.long q3), .second, .val (.long q4), .second, .val (.long q5), .second, .val (.int p6), .val (.int (p2.toInt16.toInt32)), .val (.int j1_0), .val (.int (0 : Int32)), .unset, .unset, .unset, .unset, .unset, .unset] [(.int (1 : Int32))]))
        refine Goes.pre (fun t kt => XS.goto X0.here hx rfl (pc0 := 40) (pc' := 44) rfl (hb hby at_40) (by decide) (by decide) kt) ?_
        show Goes p e below s _ _ _ (s₁.setTop (mkF m 44 #[.val (.long q1), .second, .val (.int p2), .val (.long q3), .second, .val (.long q4), .second, .val (.long q5), .second, .val (.int p6), .val (.int (p2.toInt16.toInt32)), .val (.int j1_0), .val (.int (0 : Int32)), .unset, .unset, .unset, .unset, .unset, .unset] [(.int (1 : Int32))]))
        exact J2 ((1 : Int32)) 
    · refine Goes.pre (fun t kt => XS.ifNo X0.here hx rfl (hb hby at_22) rfl (Jvm.Free.XT.i0_eq_f (hc22)) kt) ?_
      show Goes p e below s _ _ _ (s₁.setTop (mkF m 25 #[.val (.long q1), .second, .val (.int p2), .val (.long q3), .second, .val (.long q4), .second, .val (.long q5), .second, .val (.int p6), .val (.int (p2.toInt16.toInt32)), .val (.int j1_0), .unset, .unset, .unset, .unset, .unset, .unset, .unset] []))
      refine Goes.pre (fun t kt => XS.iconst X0.here hx rfl (hb hby at_25) kt) ?_
      show Goes p e below s _ _ _ (s₁.setTop (mkF m 26 #[.val (.long q1), .second, .val (.int p2), .val (.long q3), .second, .val (.long q4), .second, .val (.long q5), .second, .val (.int p6), .val (.int (p2.toInt16.toInt32)), .val (.int j1_0), .unset, .unset, .unset, .unset, .unset, .unset, .unset] [(.int (1 : Int32))]))
      refine Goes.pre (fun t kt => XS.goto X0.here hx rfl (pc0 := 26) (pc' := 30) rfl (hb hby at_26) (by decide) (by decide) kt) ?_
      show Goes p e below s _ _ _ (s₁.setTop (mkF m 30 #[.val (.long q1), .second, .val (.int p2), .val (.long q3), .second, .val (.long q4), .second, .val (.long q5), .second, .val (.int p6), .val (.int (p2.toInt16.toInt32)), .val (.int j1_0), .unset, .unset, .unset, .unset, .unset, .unset, .unset] [(.int (1 : Int32))]))
      refine Goes.pre (fun t kt => XS.istore X0.here hx rfl (hb hby at_30) rfl (l' := #[.val (.long q1), .second, .val (.int p2), .val (.long q3), .second, .val (.long q4), .second, .val (.long q5), .second, .val (.int p6), .val (.int (p2.toInt16.toInt32)), .val (.int j1_0), .val (.int (1 : Int32)), .unset, .unset, .unset, .unset, .unset, .unset]) rfl kt) ?_
      show Goes p e below s _ _ _ (s₁.setTop (mkF m 32 #[.val (.long q1), .second, .val (.int p2), .val (.long q3), .second, .val (.long q4), .second, .val (.long q5), .second, .val (.int p6), .val (.int (p2.toInt16.toInt32)), .val (.int j1_0), .val (.int (1 : Int32)), .unset, .unset, .unset, .unset, .unset, .unset] []))
      refine Goes.pre (fun t kt => XS.iload X0.here hx rfl (hb hby at_32) rfl kt) ?_
      show Goes p e below s _ _ _ (s₁.setTop (mkF m 34 #[.val (.long q1), .second, .val (.int p2), .val (.long q3), .second, .val (.long q4), .second, .val (.long q5), .second, .val (.int p6), .val (.int (p2.toInt16.toInt32)), .val (.int j1_0), .val (.int (1 : Int32)), .unset, .unset, .unset, .unset, .unset, .unset] [(.int p6)]))
      refine Goes.pre (fun t kt => XS.iconst X0.here hx rfl (hb hby at_34) kt) ?_
      show Goes p e below s _ _ _ (s₁.setTop (mkF m 35 #[.val (.long q1), .second, .val (.int p2), .val (.long q3), .second, .val (.long q4), .second, .val (.long q5), .second, .val (.int p6), .val (.int (p2.toInt16.toInt32)), .val (.int j1_0), .val (.int (1 : Int32)), .unset, .unset, .unset, .unset, .unset, .unset] [(.int (4 : Int32)), (.int p6)]))
      refine Goes.pre (fun t kt => XS.iand X0.here hx rfl (hb hby at_35) rfl kt) ?_
      show Goes p e below s _ _ _ (s₁.setTop (mkF m 36 #[.val (.long q1), .second, .val (.int p2), .val (.long q3), .second, .val (.long q4), .second, .val (.long q5), .second, .val (.int p6), .val (.int (p2.toInt16.toInt32)), .val (.int j1_0), .val (.int (1 : Int32)), .unset, .unset, .unset, .unset, .unset, .unset] [(.int (p6 &&& (4 : Int32)))]))
      have J57 : ∀ (j57_0 : Int32), Goes p e below s (Q_rm0 Z q1 p2 q3 q4 q5 p6 G1 h0 n0) room_1.cells room_1.slots (s₁.setTop (mkF m 44 #[.val (.long q1), .second, .val (.int p2), .val (.long q3), .second, .val (.long q4), .second, .val (.long q5), .second, .val (.int p6), .val (.int (p2.toInt16.toInt32)), .val (.int j1_0), .val (.int (1 : Int32)), .unset, .unset, .unset, .unset, .unset, .unset] [(.int j57_0)])) := by
        intro j57_0
        refine Goes.pre (fun t kt => XS.istore X0.here hx rfl (hb hby at_44) rfl (l' := #[.val (.long q1), .second, .val (.int p2), .val (.long q3), .second, .val (.long q4), .second, .val (.long q5), .second, .val (.int p6), .val (.int (p2.toInt16.toInt32)), .val (.int j1_0), .val (.int (1 : Int32)), .val (.int j57_0), .unset, .unset, .unset, .unset, .unset]) rfl kt) ?_
        show Goes p e below s _ _ _ (s₁.setTop (mkF m 46 #[.val (.long q1), .second, .val (.int p2), .val (.long q3), .second, .val (.long q4), .second, .val (.long q5), .second, .val (.int p6), .val (.int (p2.toInt16.toInt32)), .val (.int j1_0), .val (.int (1 : Int32)), .val (.int j57_0), .unset, .unset, .unset, .unset, .unset] []))
        refine Goes.pre (fun t kt => XS.iconst X0.here hx rfl (hb hby at_46) kt) ?_
        show Goes p e below s _ _ _ (s₁.setTop (mkF m 47 #[.val (.long q1), .second, .val (.int p2), .val (.long q3), .second, .val (.long q4), .second, .val (.long q5), .second, .val (.int p6), .val (.int (p2.toInt16.toInt32)), .val (.int j1_0), .val (.int (1 : Int32)), .val (.int j57_0), .unset, .unset, .unset, .unset, .unset] [(.int (2 : Int32))]))
        obtain ⟨T58, h58, k58, X58, e58, E58, A58, st58⟩ := newP X0 hx hZ (hw _ (List.mem_of_getElem? (i := 0) rfl)) e0 (g := (mkF m 47 #[.val (.long q1), .second, .val (.int p2), .val (.long q3), .second, .val (.long q4), .second, .val (.long q5), .second, .val (.int p6), .val (.int (p2.toInt16.toInt32)), .val (.int j1_0), .val (.int (1 : Int32)), .val (.int j57_0), .unset, .unset, .unset, .unset, .unset] [(.int (2 : Int32))])) rfl (hb hby at_47) rfl (by decide) (cap := 2) (by decide) (by decide) (by decide) (by decide)
        obtain ⟨b58, g58⟩ : ∃ z, z = h0.size := ⟨_, rfl⟩
        rw [← g58] at A58 st58
        have gg58 : n0 ≤ b58 := Nat.le_trans Z0 (Nat.le_of_eq g58.symm)
        have Z58 : n0 ≤ h58.size := Nat.le_trans Z0 E58.1
        have Od58 := X00.ext E58
        refine Goes.pre st58 ?_
        have V58 : Arv Z h58 b58 k58 .char (2 : Int32) [(.int (0 : Int32)), (.int (0 : Int32))] (.int (0 : Int32)) := (Arv.new A58 (by decide)).pad (pad_rep [] (.int (0 : Int32)) 2)
        show Goes p e below s _ _ _ (T58.setTop (mkF m 49 #[.val (.long q1), .second, .val (.int p2), .val (.long q3), .second, .val (.long q4), .second, .val (.long q5), .second, .val (.int p6), .val (.int (p2.toInt16.toInt32)), .val (.int j1_0), .val (.int (1 : Int32)), .val (.int j57_0), .unset, .unset, .unset, .unset, .unset] [(.ref b58)]))
        refine Goes.pre (fun t kt => XS.astore X58.here hx rfl (hb hby at_49) rfl rfl (l' := #[.val (.long q1), .second, .val (.int p2), .val (.long q3), .second, .val (.long q4), .second, .val (.long q5), .second, .val (.int p6), .val (.int (p2.toInt16.toInt32)), .val (.int j1_0), .val (.int (1 : Int32)), .val (.int j57_0), .val (.ref b58), .unset, .unset, .unset, .unset]) rfl kt) ?_
        show Goes p e below s _ _ _ (T58.setTop (mkF m 51 #[.val (.long q1), .second, .val (.int p2), .val (.long q3), .second, .val (.long q4), .second, .val (.long q5), .second, .val (.int p6), .val (.int (p2.toInt16.toInt32)), .val (.int j1_0), .val (.int (1 : Int32)), .val (.int j57_0), .val (.ref b58), .unset, .unset, .unset, .unset] []))
        refine Goes.pre (fun t kt => XS.aload X58.here hx rfl (hb hby at_51) rfl rfl kt) ?_
        show Goes p e below s _ _ _ (T58.setTop (mkF m 53 #[.val (.long q1), .second, .val (.int p2), .val (.long q3), .second, .val (.long q4), .second, .val (.long q5), .second, .val (.int p6), .val (.int (p2.toInt16.toInt32)), .val (.int j1_0), .val (.int (1 : Int32)), .val (.int j57_0), .val (.ref b58), .unset, .unset, .unset, .unset] [(.ref b58)]))
        refine Goes.pre (fun t kt => XS.iconst X58.here hx rfl (hb hby at_53) kt) ?_
        show Goes p e below s _ _ _ (T58.setTop (mkF m 54 #[.val (.long q1), .second, .val (.int p2), .val (.long q3), .second, .val (.long q4), .second, .val (.long q5), .second, .val (.int p6), .val (.int (p2.toInt16.toInt32)), .val (.int j1_0), .val (.int (1 : Int32)), .val (.int j57_0), .val (.ref b58), .unset, .unset, .unset, .unset] [(.int (0 : Int32)), (.ref b58)]))
        refine Goes.pre (fun t kt => XS.iload X58.here hx rfl (hb hby at_54) rfl kt) ?_
        show Goes p e below s _ _ _ (T58.setTop (mkF m 56 #[.val (.long q1), .second, .val (.int p2), .val (.long q3), .second, .val (.long q4), .second, .val (.long q5), .second, .val (.int p6), .val (.int (p2.toInt16.toInt32)), .val (.int j1_0), .val (.int (1 : Int32)), .val (.int j57_0), .val (.ref b58), .unset, .unset, .unset, .unset] [(.int p6), (.int (0 : Int32)), (.ref b58)]))
        refine Goes.pre (fun t kt => XS.bipush X58.here hx rfl (hb hby at_56) kt) ?_
        show Goes p e below s _ _ _ (T58.setTop (mkF m 58 #[.val (.long q1), .second, .val (.int p2), .val (.long q3), .second, .val (.long q4), .second, .val (.long q5), .second, .val (.int p6), .val (.int (p2.toInt16.toInt32)), .val (.int j1_0), .val (.int (1 : Int32)), .val (.int j57_0), .val (.ref b58), .unset, .unset, .unset, .unset] [(.int (8 : Int32)), (.int p6), (.int (0 : Int32)), (.ref b58)]))
        refine Goes.pre (fun t kt => XS.iushr X58.here hx rfl (hb hby at_58) rfl kt) ?_
        show Goes p e below s _ _ _ (T58.setTop (mkF m 59 #[.val (.long q1), .second, .val (.int p2), .val (.long q3), .second, .val (.long q4), .second, .val (.long q5), .second, .val (.int p6), .val (.int (p2.toInt16.toInt32)), .val (.int j1_0), .val (.int (1 : Int32)), .val (.int j57_0), .val (.ref b58), .unset, .unset, .unset, .unset] [(.int ((p6.toUInt32 >>> ((8 : Int32) &&& 31).toUInt32).toInt32)), (.int (0 : Int32)), (.ref b58)]))
        refine Goes.pre (fun t kt => XS.sipush X58.here hx rfl (hb hby at_59) kt) ?_
        show Goes p e below s _ _ _ (T58.setTop (mkF m 62 #[.val (.long q1), .second, .val (.int p2), .val (.long q3), .second, .val (.long q4), .second, .val (.long q5), .second, .val (.int p6), .val (.int (p2.toInt16.toInt32)), .val (.int j1_0), .val (.int (1 : Int32)), .val (.int j57_0), .val (.ref b58), .unset, .unset, .unset, .unset] [(.int (255 : Int32)), (.int ((p6.toUInt32 >>> ((8 : Int32) &&& 31).toUInt32).toInt32)), (.int (0 : Int32)), (.ref b58)]))
        refine Goes.pre (fun t kt => XS.iand X58.here hx rfl (hb hby at_62) rfl kt) ?_
        show Goes p e below s _ _ _ (T58.setTop (mkF m 63 #[.val (.long q1), .second, .val (.int p2), .val (.long q3), .second, .val (.long q4), .second, .val (.long q5), .second, .val (.int p6), .val (.int (p2.toInt16.toInt32)), .val (.int j1_0), .val (.int (1 : Int32)), .val (.int j57_0), .val (.ref b58), .unset, .unset, .unset, .unset] [(.int (((p6.toUInt32 >>> ((8 : Int32) &&& 31).toUInt32).toInt32) &&& (255 : Int32))), (.int (0 : Int32)), (.ref b58)]))
        refine Goes.pre (fun t kt => XS.i2c X58.here hx rfl (hb hby at_63) rfl kt) ?_
        show Goes p e below s _ _ _ (T58.setTop (mkF m 64 #[.val (.long q1), .second, .val (.int p2), .val (.long q3), .second, .val (.long q4), .second, .val (.long q5), .second, .val (.int p6), .val (.int (p2.toInt16.toInt32)), .val (.int j1_0), .val (.int (1 : Int32)), .val (.int j57_0), .val (.ref b58), .unset, .unset, .unset, .unset] [(.int ((((p6.toUInt32 >>> ((8 : Int32) &&& 31).toUInt32).toInt32) &&& (255 : Int32)).toUInt32.toUInt16.toUInt32.toInt32)), (.int (0 : Int32)), (.ref b58)]))
        obtain ⟨cl59, Ar59, aq59, aS59, aN59, aH59, aG59⟩ := V58
        have hin59 : ¬ ((0 : Int32) < 0 ∨ cl59.slots.size ≤ ((0 : Int32)).toNatClampNeg) := inb_of aS59 ⟨by decide, by decide⟩
        obtain ⟨T59, h59, X59, e59, W59, st59⟩ := stC X58 hx hZ e58 Ar59 (j := (0 : Int32)) hin59 (g := (mkF m 64 #[.val (.long q1), .second, .val (.int p2), .val (.long q3), .second, .val (.long q4), .second, .val (.long q5), .second, .val (.int p6), .val (.int (p2.toInt16.toInt32)), .val (.int j1_0), .val (.int (1 : Int32)), .val (.int j57_0), .val (.ref b58), .unset, .unset, .unset, .unset] [(.int ((((p6.toUInt32 >>> ((8 : Int32) &&& 31).toUInt32).toInt32) &&& (255 : Int32)).toUInt32.toUInt16.toUInt32.toInt32)), (.int (0 : Int32)), (.ref b58)])) rfl rfl (hb hby at_64)
        refine Goes.pre st59 ?_
        have Z59 : n0 ≤ h59.size := Nat.le_trans Z58 (Keep.of_wr W59).1
        have N59 := Fr.snoc X59 N0 gg58
        have Od59 := Od58.wr W59 gg58
        have V59 : Arv Z h59 b58 k58 .char (2 : Int32) [(.int (nar .char ((((p6.toUInt32 >>> ((8 : Int32) &&& 31).toUInt32).toInt32) &&& (255 : Int32)).toUInt32.toUInt16.toUInt32.toInt32))), (.int (0 : Int32))] (.int (0 : Int32)) := Arv.set Ar59 aq59 aS59 aN59 aH59 aG59 (fits_nar_char _) W59 0 rfl (Nat.le_of_ble_eq_true rfl)
        show Goes p e below s _ _ _ (T59.setTop (mkF m 65 #[.val (.long q1), .second, .val (.int p2), .val (.long q3), .second, .val (.long q4), .second, .val (.long q5), .second, .val (.int p6), .val (.int (p2.toInt16.toInt32)), .val (.int j1_0), .val (.int (1 : Int32)), .val (.int j57_0), .val (.ref b58), .unset, .unset, .unset, .unset] []))
        refine Goes.pre (fun t kt => XS.aload X59.here hx rfl (hb hby at_65) rfl rfl kt) ?_
        show Goes p e below s _ _ _ (T59.setTop (mkF m 67 #[.val (.long q1), .second, .val (.int p2), .val (.long q3), .second, .val (.long q4), .second, .val (.long q5), .second, .val (.int p6), .val (.int (p2.toInt16.toInt32)), .val (.int j1_0), .val (.int (1 : Int32)), .val (.int j57_0), .val (.ref b58), .unset, .unset, .unset, .unset] [(.ref b58)]))
        refine Goes.pre (fun t kt => XS.iconst X59.here hx rfl (hb hby at_67) kt) ?_
        show Goes p e below s _ _ _ (T59.setTop (mkF m 68 #[.val (.long q1), .second, .val (.int p2), .val (.long q3), .second, .val (.long q4), .second, .val (.long q5), .second, .val (.int p6), .val (.int (p2.toInt16.toInt32)), .val (.int j1_0), .val (.int (1 : Int32)), .val (.int j57_0), .val (.ref b58), .unset, .unset, .unset, .unset] [(.int (1 : Int32)), (.ref b58)]))
        refine Goes.pre (fun t kt => XS.iload X59.here hx rfl (hb hby at_68) rfl kt) ?_
        show Goes p e below s _ _ _ (T59.setTop (mkF m 70 #[.val (.long q1), .second, .val (.int p2), .val (.long q3), .second, .val (.long q4), .second, .val (.long q5), .second, .val (.int p6), .val (.int (p2.toInt16.toInt32)), .val (.int j1_0), .val (.int (1 : Int32)), .val (.int j57_0), .val (.ref b58), .unset, .unset, .unset, .unset] [(.int p6), (.int (1 : Int32)), (.ref b58)]))
        refine Goes.pre (fun t kt => XS.bipush X59.here hx rfl (hb hby at_70) kt) ?_
        show Goes p e below s _ _ _ (T59.setTop (mkF m 72 #[.val (.long q1), .second, .val (.int p2), .val (.long q3), .second, .val (.long q4), .second, .val (.long q5), .second, .val (.int p6), .val (.int (p2.toInt16.toInt32)), .val (.int j1_0), .val (.int (1 : Int32)), .val (.int j57_0), .val (.ref b58), .unset, .unset, .unset, .unset] [(.int (16 : Int32)), (.int p6), (.int (1 : Int32)), (.ref b58)]))
        refine Goes.pre (fun t kt => XS.iushr X59.here hx rfl (hb hby at_72) rfl kt) ?_
        show Goes p e below s _ _ _ (T59.setTop (mkF m 73 #[.val (.long q1), .second, .val (.int p2), .val (.long q3), .second, .val (.long q4), .second, .val (.long q5), .second, .val (.int p6), .val (.int (p2.toInt16.toInt32)), .val (.int j1_0), .val (.int (1 : Int32)), .val (.int j57_0), .val (.ref b58), .unset, .unset, .unset, .unset] [(.int ((p6.toUInt32 >>> ((16 : Int32) &&& 31).toUInt32).toInt32)), (.int (1 : Int32)), (.ref b58)]))
        refine Goes.pre (fun t kt => XS.sipush X59.here hx rfl (hb hby at_73) kt) ?_
        show Goes p e below s _ _ _ (T59.setTop (mkF m 76 #[.val (.long q1), .second, .val (.int p2), .val (.long q3), .second, .val (.long q4), .second, .val (.long q5), .second, .val (.int p6), .val (.int (p2.toInt16.toInt32)), .val (.int j1_0), .val (.int (1 : Int32)), .val (.int j57_0), .val (.ref b58), .unset, .unset, .unset, .unset] [(.int (255 : Int32)), (.int ((p6.toUInt32 >>> ((16 : Int32) &&& 31).toUInt32).toInt32)), (.int (1 : Int32)), (.ref b58)]))
        refine Goes.pre (fun t kt => XS.iand X59.here hx rfl (hb hby at_76) rfl kt) ?_
        show Goes p e below s _ _ _ (T59.setTop (mkF m 77 #[.val (.long q1), .second, .val (.int p2), .val (.long q3), .second, .val (.long q4), .second, .val (.long q5), .second, .val (.int p6), .val (.int (p2.toInt16.toInt32)), .val (.int j1_0), .val (.int (1 : Int32)), .val (.int j57_0), .val (.ref b58), .unset, .unset, .unset, .unset] [(.int (((p6.toUInt32 >>> ((16 : Int32) &&& 31).toUInt32).toInt32) &&& (255 : Int32))), (.int (1 : Int32)), (.ref b58)]))
        refine Goes.pre (fun t kt => XS.i2c X59.here hx rfl (hb hby at_77) rfl kt) ?_
        show Goes p e below s _ _ _ (T59.setTop (mkF m 78 #[.val (.long q1), .second, .val (.int p2), .val (.long q3), .second, .val (.long q4), .second, .val (.long q5), .second, .val (.int p6), .val (.int (p2.toInt16.toInt32)), .val (.int j1_0), .val (.int (1 : Int32)), .val (.int j57_0), .val (.ref b58), .unset, .unset, .unset, .unset] [(.int ((((p6.toUInt32 >>> ((16 : Int32) &&& 31).toUInt32).toInt32) &&& (255 : Int32)).toUInt32.toUInt16.toUInt32.toInt32)), (.int (1 : Int32)), (.ref b58)]))
        obtain ⟨cl60, Ar60, aq60, aS60, aN60, aH60, aG60⟩ := V59
        have hin60 : ¬ ((1 : Int32) < 0 ∨ cl60.slots.size ≤ ((1 : Int32)).toNatClampNeg) := inb_of aS60 ⟨by decide, by decide⟩
        obtain ⟨T60, h60, X60, e60, W60, st60⟩ := stC X59 hx hZ e59 Ar60 (j := (1 : Int32)) hin60 (g := (mkF m 78 #[.val (.long q1), .second, .val (.int p2), .val (.long q3), .second, .val (.long q4), .second, .val (.long q5), .second, .val (.int p6), .val (.int (p2.toInt16.toInt32)), .val (.int j1_0), .val (.int (1 : Int32)), .val (.int j57_0), .val (.ref b58), .unset, .unset, .unset, .unset] [(.int ((((p6.toUInt32 >>> ((16 : Int32) &&& 31).toUInt32).toInt32) &&& (255 : Int32)).toUInt32.toUInt16.toUInt32.toInt32)), (.int (1 : Int32)), (.ref b58)])) rfl rfl (hb hby at_78)
        refine Goes.pre st60 ?_
        have Z60 : n0 ≤ h60.size := Nat.le_trans Z59 (Keep.of_wr W60).1
        have N60 := Fr.snoc X60 N59 gg58
        have Od60 := Od59.wr W60 gg58
        have V60 : Arv Z h60 b58 k58 .char (2 : Int32) [(.int (nar .char ((((p6.toUInt32 >>> ((8 : Int32) &&& 31).toUInt32).toInt32) &&& (255 : Int32)).toUInt32.toUInt16.toUInt32.toInt32))), (.int (nar .char ((((p6.toUInt32 >>> ((16 : Int32) &&& 31).toUInt32).toInt32) &&& (255 : Int32)).toUInt32.toUInt16.toUInt32.toInt32)))] (.int (0 : Int32)) := Arv.set Ar60 aq60 aS60 aN60 aH60 aG60 (fits_nar_char _) W60 1 rfl (Nat.le_of_ble_eq_true rfl)
        show Goes p e below s _ _ _ (T60.setTop (mkF m 79 #[.val (.long q1), .second, .val (.int p2), .val (.long q3), .second, .val (.long q4), .second, .val (.long q5), .second, .val (.int p6), .val (.int (p2.toInt16.toInt32)), .val (.int j1_0), .val (.int (1 : Int32)), .val (.int j57_0), .val (.ref b58), .unset, .unset, .unset, .unset] []))
        obtain ⟨T61, h61, X61, e61, E61, A61, D61, U61, st61⟩ := newO X60 hx hZ hown (hw _ (List.mem_of_getElem? (i := 1) rfl)) (hw _ (List.mem_of_getElem? (i := 2) rfl)) (hw _ (List.mem_of_getElem? (i := 3) rfl)) e60 (g := (mkF m 79 #[.val (.long q1), .second, .val (.int p2), .val (.long q3), .second, .val (.long q4), .second, .val (.long q5), .second, .val (.int p6), .val (.int (p2.toInt16.toInt32)), .val (.int j1_0), .val (.int (1 : Int32)), .val (.int j57_0), .val (.ref b58), .unset, .unset, .unset, .unset] [])) rfl (hb hby at_79) (by decide) (by decide)
        obtain ⟨b61, g61⟩ : ∃ z, z = h60.size := ⟨_, rfl⟩
        rw [← g61] at A61 D61 U61 st61
        have ltb58_61 : b58 < b61 := Nat.lt_of_lt_of_le V60.lt (Nat.le_of_eq g61.symm)
        have gg61 : n0 ≤ b61 := Nat.le_trans Z60 (Nat.le_of_eq g61.symm)
        have Z61 : n0 ≤ h61.size := Nat.le_trans Z60 E61.1
        have Od61 := Od60.ext E61
        refine Goes.pre st61 ?_
        have Fn61_27 : Fld Z h61 b61 "java/lang/String" "coder" "B" (.int (0 : Int32)) := D61 (Or.inr (hw _ (List.mem_of_getElem? (i := 27) rfl))) (ty := .byte) (by decide)
        have Fn61_29 : Fld Z h61 b61 "java/lang/String" "value" "[B" .null := D61 (Or.inr (hw _ (List.mem_of_getElem? (i := 29) rfl))) (ty := (.array .byte)) (by decide)
        show Goes p e below s _ _ _ (T61.setTop (mkF m 82 #[.val (.long q1), .second, .val (.int p2), .val (.long q3), .second, .val (.long q4), .second, .val (.long q5), .second, .val (.int p6), .val (.int (p2.toInt16.toInt32)), .val (.int j1_0), .val (.int (1 : Int32)), .val (.int j57_0), .val (.ref b58), .unset, .unset, .unset, .unset] [(.ref b61)]))
        refine Goes.pre (fun t kt => XS.dup X61.here hx rfl (hb hby at_82) rfl rfl kt) ?_
        show Goes p e below s _ _ _ (T61.setTop (mkF m 83 #[.val (.long q1), .second, .val (.int p2), .val (.long q3), .second, .val (.long q4), .second, .val (.long q5), .second, .val (.int p6), .val (.int (p2.toInt16.toInt32)), .val (.int j1_0), .val (.int (1 : Int32)), .val (.int j57_0), .val (.ref b58), .unset, .unset, .unset, .unset] [(.ref b61), (.ref b61)]))
        refine Goes.pre (fun t kt => XS.aload X61.here hx rfl (hb hby at_83) rfl rfl kt) ?_
        show Goes p e below s _ _ _ (T61.setTop (mkF m 85 #[.val (.long q1), .second, .val (.int p2), .val (.long q3), .second, .val (.long q4), .second, .val (.long q5), .second, .val (.int p6), .val (.int (p2.toInt16.toInt32)), .val (.int j1_0), .val (.int (1 : Int32)), .val (.int j57_0), .val (.ref b58), .unset, .unset, .unset, .unset] [(.ref b58), (.ref b61), (.ref b61)]))
        have hws : ∀ d ∈ StrChars.Road.words, d.before a0 Z = true := fun d hd => hw d ((by decide +kernel : ∀ d ∈ StrChars.Road.words, d ∈ tables_1) d hd)
        have hp62 : ∀ c ∈ ([(nar .char ((((p6.toUInt32 >>> ((8 : Int32) &&& 31).toUInt32).toInt32) &&& (255 : Int32)).toUInt32.toUInt16.toUInt32.toInt32)), (nar .char ((((p6.toUInt32 >>> ((16 : Int32) &&& 31).toUInt32).toInt32) &&& (255 : Int32)).toUInt32.toUInt16.toUInt32.toInt32))] : List Int32), ¬ c < 0 ∧ ¬ (255 : Int32) < c := by
          intro c hc
          simp only [List.mem_cons, List.not_mem_nil, or_false] at hc
          rcases hc with rfl | rfl
          · exact own_lat _
          · exact own_lat _
        have fc63 : Arv Z h61 b58 k58 .char (2 : Int32) [(.int (nar .char ((((p6.toUInt32 >>> ((8 : Int32) &&& 31).toUInt32).toInt32) &&& (255 : Int32)).toUInt32.toUInt16.toUInt32.toInt32))), (.int (nar .char ((((p6.toUInt32 >>> ((16 : Int32) &&& 31).toUInt32).toInt32) &&& (255 : Int32)).toUInt32.toUInt16.toUInt32.toInt32)))] (.int (0 : Int32)) := (V60.ext E61)
        obtain ⟨_, _, ⟨T62, L62, k62, n62⟩, -, X62, ⟨Lc62, hQ62, l62, y62, z62⟩, st62⟩ := X61.specialBack hx (y := (⟨"java/lang/String", "<init>", "([C)V"⟩ : MethodName)) rfl hown (mvT hZ (hw _ (List.mem_of_getElem? (i := 4) rfl))) (mvT hZ (hw _ (List.mem_of_getElem? (i := 5) rfl))) (mvT hZ (hw _ (List.mem_of_getElem? (i := 6) rfl))) (by decide) (StrChars.Road.backV (W := 1) hZ hws (kI := 4) (hw _ (List.mem_of_getElem? (i := 2) rfl)) (cs := ([(nar .char ((((p6.toUInt32 >>> ((8 : Int32) &&& 31).toUInt32).toInt32) &&& (255 : Int32)).toUInt32.toUInt16.toUInt32.toInt32)), (nar .char ((((p6.toUInt32 >>> ((16 : Int32) &&& 31).toUInt32).toInt32) &&& (255 : Int32)).toUInt32.toUInt16.toUInt32.toInt32))] : List Int32)) (bs := ([(nar .char ((((p6.toUInt32 >>> ((8 : Int32) &&& 31).toUInt32).toInt32) &&& (255 : Int32)).toUInt32.toUInt16.toUInt32.toInt32)), (nar .char ((((p6.toUInt32 >>> ((16 : Int32) &&& 31).toUInt32).toInt32) &&& (255 : Int32)).toUInt32.toUInt16.toUInt32.toInt32))] : List Int32).map (fun c => c.toInt8.toInt32)) (n := 2) gg61 Z61 A61 Fn61_29 Fn61_27 fc63 (pf_S_java_lang_String_COMPACT_STRINGS.ext Od61.2) hcs rfl rfl (by decide) (by decide) hp62 rfl (by decide) (by decide)) (g := (mkF m 85 #[.val (.long q1), .second, .val (.int p2), .val (.long q3), .second, .val (.long q4), .second, .val (.long q5), .second, .val (.int p6), .val (.int (p2.toInt16.toInt32)), .val (.int j1_0), .val (.int (1 : Int32)), .val (.int j57_0), .val (.ref b58), .unset, .unset, .unset, .unset] [(.ref b58), (.ref b61), (.ref b61)])) rfl (by rw [hml]; rfl) (Steps.refl _) (a := b61) (argsL := [(.ref b58)]) (rest := [(.ref b61)]) (lenOf pd_1 rfl) rfl (by show 2 * 0 + _ ≤ _; exact Nat.le_of_eq rfl) (hb hby at_85) (fun _ _ => ⟨rfl, e61, (by decide : 2 + 1 ≤ _), (by decide : 6 + 2 ≤ _)⟩)
        dsimp only [Pt.U, Pt.locs, Pt.cells, Pt.slots] at X62 l62 y62 z62 st62 hQ62
        subst l62 y62 z62
        obtain ⟨rfl, Nq62, Kq62, Eq62, Cq62, t_62, kb_62, Gt62, St62, ne62, Vq62, Aq62⟩ := hQ62
        refine Goes.run st62 ?_
        have N62 := Fr.app N60 Nq62
        obtain ⟨h62, e62⟩ : ∃ z, T62.heap = z := ⟨_, rfl⟩
        rw [e62] at Kq62 Eq62 Cq62 Vq62 Aq62
        have ltb58_62 : b58 < t_62 := Nat.lt_of_lt_of_le fc63.lt St62
        have Z62 : n0 ≤ h62.size := Nat.le_trans Z61 Kq62.1
        have Od62 := Od61.keep Kq62 (allS gg61 all0)
        show Goes p e below s _ _ _ (T62.setTop (mkF m 88 #[.val (.long q1), .second, .val (.int p2), .val (.long q3), .second, .val (.long q4), .second, .val (.long q5), .second, .val (.int p6), .val (.int (p2.toInt16.toInt32)), .val (.int j1_0), .val (.int (1 : Int32)), .val (.int j57_0), .val (.ref b58), .unset, .unset, .unset, .unset] [(.ref b61)]))
        refine Goes.pre (fun t kt => XS.astore X62.here hx rfl (hb hby at_88) rfl rfl (l' := #[.val (.long q1), .second, .val (.int p2), .val (.long q3), .second, .val (.long q4), .second, .val (.long q5), .second, .val (.int p6), .val (.int (p2.toInt16.toInt32)), .val (.int j1_0), .val (.int (1 : Int32)), .val (.int j57_0), .val (.ref b58), .val (.ref b61), .unset, .unset, .unset]) rfl kt) ?_
        show Goes p e below s _ _ _ (T62.setTop (mkF m 90 #[.val (.long q1), .second, .val (.int p2), .val (.long q3), .second, .val (.long q4), .second, .val (.long q5), .second, .val (.int p6), .val (.int (p2.toInt16.toInt32)), .val (.int j1_0), .val (.int (1 : Int32)), .val (.int j57_0), .val (.ref b58), .val (.ref b61), .unset, .unset, .unset] []))
        refine Goes.pre (fun t kt => XS.iload X62.here hx rfl (hb hby at_90) rfl kt) ?_
        show Goes p e below s _ _ _ (T62.setTop (mkF m 92 #[.val (.long q1), .second, .val (.int p2), .val (.long q3), .second, .val (.long q4), .second, .val (.long q5), .second, .val (.int p6), .val (.int (p2.toInt16.toInt32)), .val (.int j1_0), .val (.int (1 : Int32)), .val (.int j57_0), .val (.ref b58), .val (.ref b61), .unset, .unset, .unset] [(.int (1 : Int32))]))
        refine Goes.pre (fun t kt => XS.ifNo X62.here hx rfl (hb hby at_92) rfl (Jvm.Free.XT.i0_eq_f ((by decide))) kt) ?_
        show Goes p e below s _ _ _ (T62.setTop (mkF m 95 #[.val (.long q1), .second, .val (.int p2), .val (.long q3), .second, .val (.long q4), .second, .val (.long q5), .second, .val (.int p6), .val (.int (p2.toInt16.toInt32)), .val (.int j1_0), .val (.int (1 : Int32)), .val (.int j57_0), .val (.ref b58), .val (.ref b61), .unset, .unset, .unset] []))
        refine Goes.pre (fun t kt => XS.aload X62.here hx rfl (hb hby at_95) rfl rfl kt) ?_
        show Goes p e below s _ _ _ (T62.setTop (mkF m 97 #[.val (.long q1), .second, .val (.int p2), .val (.long q3), .second, .val (.long q4), .second, .val (.long q5), .second, .val (.int p6), .val (.int (p2.toInt16.toInt32)), .val (.int j1_0), .val (.int (1 : Int32)), .val (.int j57_0), .val (.ref b58), .val (.ref b61), .unset, .unset, .unset] [(.ref b61)]))
        refine Goes.pre (fun t kt => XS.goto X62.here hx rfl (pc0 := 97) (pc' := 101) rfl (hb hby at_97) (by decide) (by decide) kt) ?_
        show Goes p e below s _ _ _ (T62.setTop (mkF m 101 #[.val (.long q1), .second, .val (.int p2), .val (.long q3), .second, .val (.long q4), .second, .val (.long q5), .second, .val (.int p6), .val (.int (p2.toInt16.toInt32)), .val (.int j1_0), .val (.int (1 : Int32)), .val (.int j57_0), .val (.ref b58), .val (.ref b61), .unset, .unset, .unset] [(.ref b61)]))
        refine Goes.pre (fun t kt => XS.astore X62.here hx rfl (hb hby at_101) rfl rfl (l' := #[.val (.long q1), .second, .val (.int p2), .val (.long q3), .second, .val (.long q4), .second, .val (.long q5), .second, .val (.int p6), .val (.int (p2.toInt16.toInt32)), .val (.int j1_0), .val (.int (1 : Int32)), .val (.int j57_0), .val (.ref b58), .val (.ref b61), .val (.ref b61), .unset, .unset]) rfl kt) ?_
        show Goes p e below s _ _ _ (T62.setTop (mkF m 103 #[.val (.long q1), .second, .val (.int p2), .val (.long q3), .second, .val (.long q4), .second, .val (.long q5), .second, .val (.int p6), .val (.int (p2.toInt16.toInt32)), .val (.int j1_0), .val (.int (1 : Int32)), .val (.int j57_0), .val (.ref b58), .val (.ref b61), .val (.ref b61), .unset, .unset] []))
        refine Goes.pre (fun t kt => XS.iload X62.here hx rfl (hb hby at_103) rfl kt) ?_
        show Goes p e below s _ _ _ (T62.setTop (mkF m 105 #[.val (.long q1), .second, .val (.int p2), .val (.long q3), .second, .val (.long q4), .second, .val (.long q5), .second, .val (.int p6), .val (.int (p2.toInt16.toInt32)), .val (.int j1_0), .val (.int (1 : Int32)), .val (.int j57_0), .val (.ref b58), .val (.ref b61), .val (.ref b61), .unset, .unset] [(.int (1 : Int32))]))
        refine Goes.pre (fun t kt => XS.ifNo X62.here hx rfl (hb hby at_105) rfl (Jvm.Free.XT.i0_eq_f ((by decide))) kt) ?_
        show Goes p e below s _ _ _ (T62.setTop (mkF m 108 #[.val (.long q1), .second, .val (.int p2), .val (.long q3), .second, .val (.long q4), .second, .val (.long q5), .second, .val (.int p6), .val (.int (p2.toInt16.toInt32)), .val (.int j1_0), .val (.int (1 : Int32)), .val (.int j57_0), .val (.ref b58), .val (.ref b61), .val (.ref b61), .unset, .unset] []))
        refine Goes.pre (fun t kt => XS.aconstNull X62.here hx rfl (hb hby at_108) kt) ?_
        show Goes p e below s _ _ _ (T62.setTop (mkF m 109 #[.val (.long q1), .second, .val (.int p2), .val (.long q3), .second, .val (.long q4), .second, .val (.long q5), .second, .val (.int p6), .val (.int (p2.toInt16.toInt32)), .val (.int j1_0), .val (.int (1 : Int32)), .val (.int j57_0), .val (.ref b58), .val (.ref b61), .val (.ref b61), .unset, .unset] [.null]))
        refine Goes.pre (fun t kt => XS.goto X62.here hx rfl (pc0 := 109) (pc' := 114) rfl (hb hby at_109) (by decide) (by decide) kt) ?_
        show Goes p e below s _ _ _ (T62.setTop (mkF m 114 #[.val (.long q1), .second, .val (.int p2), .val (.long q3), .second, .val (.long q4), .second, .val (.long q5), .second, .val (.int p6), .val (.int (p2.toInt16.toInt32)), .val (.int j1_0), .val (.int (1 : Int32)), .val (.int j57_0), .val (.ref b58), .val (.ref b61), .val (.ref b61), .unset, .unset] [.null]))
        refine Goes.pre (fun t kt => XS.astore X62.here hx rfl (hb hby at_114) rfl rfl (l' := #[.val (.long q1), .second, .val (.int p2), .val (.long q3), .second, .val (.long q4), .second, .val (.long q5), .second, .val (.int p6), .val (.int (p2.toInt16.toInt32)), .val (.int j1_0), .val (.int (1 : Int32)), .val (.int j57_0), .val (.ref b58), .val (.ref b61), .val (.ref b61), .val .null, .unset]) rfl kt) ?_
        show Goes p e below s _ _ _ (T62.setTop (mkF m 116 #[.val (.long q1), .second, .val (.int p2), .val (.long q3), .second, .val (.long q4), .second, .val (.long q5), .second, .val (.int p6), .val (.int (p2.toInt16.toInt32)), .val (.int j1_0), .val (.int (1 : Int32)), .val (.int j57_0), .val (.ref b58), .val (.ref b61), .val (.ref b61), .val .null, .unset] []))
        obtain ⟨T64, h64, X64, e64, E64, A64, D64, U64, st64⟩ := newO X62 hx hZ hown (hw _ (List.mem_of_getElem? (i := 30) rfl)) (hw _ (List.mem_of_getElem? (i := 31) rfl)) (hw _ (List.mem_of_getElem? (i := 32) rfl)) e62 (g := (mkF m 116 #[.val (.long q1), .second, .val (.int p2), .val (.long q3), .second, .val (.long q4), .second, .val (.long q5), .second, .val (.int p6), .val (.int (p2.toInt16.toInt32)), .val (.int j1_0), .val (.int (1 : Int32)), .val (.int j57_0), .val (.ref b58), .val (.ref b61), .val (.ref b61), .val .null, .unset] [])) rfl (hb hby at_116) (by decide) (by decide)
        obtain ⟨b64, g64⟩ : ∃ z, z = h62.size := ⟨_, rfl⟩
        rw [← g64] at A64 D64 U64 st64
        have fc65 : Arv Z h62 b58 k58 .char (2 : Int32) [(.int (nar .char ((((p6.toUInt32 >>> ((8 : Int32) &&& 31).toUInt32).toInt32) &&& (255 : Int32)).toUInt32.toUInt16.toUInt32.toInt32))), (.int (nar .char ((((p6.toUInt32 >>> ((16 : Int32) &&& 31).toUInt32).toInt32) &&& (255 : Int32)).toUInt32.toUInt16.toUInt32.toInt32)))] (.int (0 : Int32)) := (fc63.keep Kq62 (ninS (Nat.ne_of_lt ltb58_61) nin0))
        have ltb58_64 : b58 < b64 := Nat.lt_of_lt_of_le fc65.lt (Nat.le_of_eq g64.symm)
        have fc66 : Exa Z h62 b61 "java/lang/String" := (A61.keep Kq62)
        have ltb61_64 : b61 < b64 := Nat.lt_of_lt_of_le fc66.lt (Nat.le_of_eq g64.symm)
        have ltt_62_64 : t_62 < b64 := Nat.lt_of_lt_of_le Aq62.lt (Nat.le_of_eq g64.symm)
        have gg64 : n0 ≤ b64 := Nat.le_trans Z62 (Nat.le_of_eq g64.symm)
        have Z64 : n0 ≤ h64.size := Nat.le_trans Z62 E64.1
        have Od64 := Od62.ext E64
        refine Goes.pre st64 ?_
        have Fn64_39 : Fld Z h64 b64 "com/example/seqlint/seqlint/kafka/Transaction" "epoch" "I" (.int (0 : Int32)) := D64 (Or.inl (hw _ (List.mem_of_getElem? (i := 39) rfl))) (ty := .int) (by decide)
        have Fn64_42 : Fld Z h64 b64 "com/example/seqlint/seqlint/kafka/Transaction" "lastTimestamp" "J" (.long (0 : Int64)) := D64 (Or.inl (hw _ (List.mem_of_getElem? (i := 42) rfl))) (ty := .long) (by decide)
        have Fn64_44 : Fld Z h64 b64 "com/example/seqlint/seqlint/kafka/Transaction" "producerId" "J" (.long (0 : Int64)) := D64 (Or.inr (hw _ (List.mem_of_getElem? (i := 44) rfl))) (ty := .long) (by decide)
        have Fn64_51 : Fld Z h64 b64 "com/example/seqlint/seqlint/kafka/Transaction" "open" "Z" (.int (0 : Int32)) := D64 (Or.inl (hw _ (List.mem_of_getElem? (i := 51) rfl))) (ty := .boolean) (by decide)
        have Fn64_53 : Fld Z h64 b64 "com/example/seqlint/seqlint/kafka/Transaction" "firstOffset" "J" (.long (0 : Int64)) := D64 (Or.inl (hw _ (List.mem_of_getElem? (i := 53) rfl))) (ty := .long) (by decide)
        have Fn64_55 : Fld Z h64 b64 "com/example/seqlint/seqlint/kafka/Transaction" "position" "J" (.long (0 : Int64)) := D64 (Or.inl (hw _ (List.mem_of_getElem? (i := 55) rfl))) (ty := .long) (by decide)
        have Fn64_57 : Fld Z h64 b64 "com/example/seqlint/seqlint/kafka/Transaction" "file" "Ljava/lang/String;" .null := D64 (Or.inl (hw _ (List.mem_of_getElem? (i := 57) rfl))) (ty := (.object "java/lang/String")) (by decide)
        have Fn64_59 : Fld Z h64 b64 "com/example/seqlint/seqlint/kafka/Transaction" "firstTimestamp" "J" (.long (0 : Int64)) := D64 (Or.inl (hw _ (List.mem_of_getElem? (i := 59) rfl))) (ty := .long) (by decide)
        have Fn64_61 : Fld Z h64 b64 "com/example/seqlint/seqlint/kafka/Transaction" "reported" "Z" (.int (0 : Int32)) := D64 (Or.inl (hw _ (List.mem_of_getElem? (i := 61) rfl))) (ty := .boolean) (by decide)
        show Goes p e below s _ _ _ (T64.setTop (mkF m 119 #[.val (.long q1), .second, .val (.int p2), .val (.long q3), .second, .val (.long q4), .second, .val (.long q5), .second, .val (.int p6), .val (.int (p2.toInt16.toInt32)), .val (.int j1_0), .val (.int (1 : Int32)), .val (.int j57_0), .val (.ref b58), .val (.ref b61), .val (.ref b61), .val .null, .unset] [(.ref b64)]))
        refine Goes.pre (fun t kt => XS.dup X64.here hx rfl (hb hby at_119) rfl rfl kt) ?_
        show Goes p e below s _ _ _ (T64.setTop (mkF m 120 #[.val (.long q1), .second, .val (.int p2), .val (.long q3), .second, .val (.long q4), .second, .val (.long q5), .second, .val (.int p6), .val (.int (p2.toInt16.toInt32)), .val (.int j1_0), .val (.int (1 : Int32)), .val (.int j57_0), .val (.ref b58), .val (.ref b61), .val (.ref b61), .val .null, .unset] [(.ref b64), (.ref b64)]))
        refine Goes.pre (fun t kt => XS.lloadN X64.here hx rfl (hb hby at_120) rfl kt) ?_
        show Goes p e below s _ _ _ (T64.setTop (mkF m 121 #[.val (.long q1), .second, .val (.int p2), .val (.long q3), .second, .val (.long q4), .second, .val (.long q5), .second, .val (.int p6), .val (.int (p2.toInt16.toInt32)), .val (.int j1_0), .val (.int (1 : Int32)), .val (.int j57_0), .val (.ref b58), .val (.ref b61), .val (.ref b61), .val .null, .unset] [(.long q1), (.ref b64), (.ref b64)]))
        obtain ⟨_, _, ⟨T67, L67, k67, n67⟩, -, X67, ⟨Lc67, hQ67, l67, y67, z67⟩, st67⟩ := X64.specialBack hx (y := (⟨"com/example/seqlint/seqlint/kafka/Transaction", "<init>", "(J)V"⟩ : MethodName)) rfl hown (mvT hZ (hw _ (List.mem_of_getElem? (i := 33) rfl))) (mvT hZ (hw _ (List.mem_of_getElem? (i := 34) rfl))) (mvT hZ (hw _ (List.mem_of_getElem? (i := 35) rfl))) (by decide) (backOf (W := 1) (rm7 l Z a0 hw [] b64 q1 (.int (0 : Int32)) (.long (0 : Int64)) (.long (0 : Int64)) .null (.long (0 : Int64)) (.int (0 : Int32)) (.int (0 : Int32)) (.long (0 : Int64)) (.long (0 : Int64)) h64 n0 Z64 A64 gg64 Fn64_51 Fn64_53 Fn64_55 Fn64_57 Fn64_59 Fn64_61 Fn64_39 Fn64_42 Fn64_44) hZ (hw _ (List.mem_of_getElem? (i := 35) rfl)) (hw _ (List.mem_of_getElem? (i := 32) rfl)) (by decide) (by decide)) (g := (mkF m 121 #[.val (.long q1), .second, .val (.int p2), .val (.long q3), .second, .val (.long q4), .second, .val (.long q5), .second, .val (.int p6), .val (.int (p2.toInt16.toInt32)), .val (.int j1_0), .val (.int (1 : Int32)), .val (.int j57_0), .val (.ref b58), .val (.ref b61), .val (.ref b61), .val .null, .unset] [(.long q1), (.ref b64), (.ref b64)])) rfl (by rw [hml]; rfl) (Steps.refl _) (a := b64) (argsL := [(.long q1)]) (rest := [(.ref b64)]) (lenOf pd_2 rfl) rfl (by show 2 * 0 + _ ≤ _; exact Nat.le_of_eq rfl) (hb hby at_121) (fun _ _ => ⟨rfl, e64, (by decide : 4 + 0 ≤ _), (by decide : 17 + 0 ≤ _)⟩)
        dsimp only [Pt.U, Pt.locs, Pt.cells, Pt.slots] at X67 l67 y67 z67 st67 hQ67
        subst l67 y67 z67
        obtain ⟨rfl, Nq67, Kq67, pq67_0, pq67_1, pq67_2, pq67_3, pq67_4, pq67_5, pq67_6⟩ := hQ67
        refine Goes.run st67 ?_
        have N67 := Fr.app N62 Nq67
        obtain ⟨h67, e67⟩ : ∃ z, T67.heap = z := ⟨_, rfl⟩
        rw [e67] at Kq67 pq67_0 pq67_1 pq67_2 pq67_3 pq67_4 pq67_5 pq67_6
        have Z67 : n0 ≤ h67.size := Nat.le_trans Z64 Kq67.1
        have Od67 := Od64.keep Kq67 (allS gg64 all0)
        show Goes p e below s _ _ _ (T67.setTop (mkF m 124 #[.val (.long q1), .second, .val (.int p2), .val (.long q3), .second, .val (.long q4), .second, .val (.long q5), .second, .val (.int p6), .val (.int (p2.toInt16.toInt32)), .val (.int j1_0), .val (.int (1 : Int32)), .val (.int j57_0), .val (.ref b58), .val (.ref b61), .val (.ref b61), .val .null, .unset] [(.ref b64)]))
        refine Goes.pre (fun t kt => XS.astore X67.here hx rfl (hb hby at_124) rfl rfl (l' := #[.val (.long q1), .second, .val (.int p2), .val (.long q3), .second, .val (.long q4), .second, .val (.long q5), .second, .val (.int p6), .val (.int (p2.toInt16.toInt32)), .val (.int j1_0), .val (.int (1 : Int32)), .val (.int j57_0), .val (.ref b58), .val (.ref b61), .val (.ref b61), .val .null, .val (.ref b64)]) rfl kt) ?_
        show Goes p e below s _ _ _ (T67.setTop (mkF m 126 #[.val (.long q1), .second, .val (.int p2), .val (.long q3), .second, .val (.long q4), .second, .val (.long q5), .second, .val (.int p6), .val (.int (p2.toInt16.toInt32)), .val (.int j1_0), .val (.int (1 : Int32)), .val (.int j57_0), .val (.ref b58), .val (.ref b61), .val (.ref b61), .val .null, .val (.ref b64)] []))
        refine Goes.pre (fun t kt => XS.iload X67.here hx rfl (hb hby at_126) rfl kt) ?_
        show Goes p e below s _ _ _ (T67.setTop (mkF m 128 #[.val (.long q1), .second, .val (.int p2), .val (.long q3), .second, .val (.long q4), .second, .val (.long q5), .second, .val (.int p6), .val (.int (p2.toInt16.toInt32)), .val (.int j1_0), .val (.int (1 : Int32)), .val (.int j57_0), .val (.ref b58), .val (.ref b61), .val (.ref b61), .val .null, .val (.ref b64)] [(.int j57_0)]))
        by_cases hc128 : j57_0 = (0 : Int32)
        · refine Goes.pre (fun t kt => XS.ifYes X67.here hx rfl (pc0 := 128) (pc' := 169) rfl (hb hby at_128) rfl (Jvm.Free.XT.i0_eq_t (hc128)) (by decide) (by decide) kt) ?_
          show Goes p e below s _ _ _ (T67.setTop (mkF m 169 #[.val (.long q1), .second, .val (.int p2), .val (.long q3), .second, .val (.long q4), .second, .val (.long q5), .second, .val (.int p6), .val (.int (p2.toInt16.toInt32)), .val (.int j1_0), .val (.int (1 : Int32)), .val (.int j57_0), .val (.ref b58), .val (.ref b61), .val (.ref b61), .val .null, .val (.ref b64)] []))
          refine Goes.pre (fun t kt => XS.aload X67.here hx rfl (hb hby at_169) rfl rfl kt) ?_
          show Goes p e below s _ _ _ (T67.setTop (mkF m 171 #[.val (.long q1), .second, .val (.int p2), .val (.long q3), .second, .val (.long q4), .second, .val (.long q5), .second, .val (.int p6), .val (.int (p2.toInt16.toInt32)), .val (.int j1_0), .val (.int (1 : Int32)), .val (.int j57_0), .val (.ref b58), .val (.ref b61), .val (.ref b61), .val .null, .val (.ref b64)] [(.ref b64)]))
          refine Goes.pre (fun t kt => XS.iload X67.here hx rfl (hb hby at_171) rfl kt) ?_
          show Goes p e below s _ _ _ (T67.setTop (mkF m 173 #[.val (.long q1), .second, .val (.int p2), .val (.long q3), .second, .val (.long q4), .second, .val (.long q5), .second, .val (.int p6), .val (.int (p2.toInt16.toInt32)), .val (.int j1_0), .val (.int (1 : Int32)), .val (.int j57_0), .val (.ref b58), .val (.ref b61), .val (.ref b61), .val .null, .val (.ref b64)] [(.int (p2.toInt16.toInt32)), (.ref b64)]))
          refine Goes.pre (fun t kt => XS.lloadN X67.here hx rfl (hb hby at_173) rfl kt) ?_
          show Goes p e below s _ _ _ (T67.setTop (mkF m 174 #[.val (.long q1), .second, .val (.int p2), .val (.long q3), .second, .val (.long q4), .second, .val (.long q5), .second, .val (.int p6), .val (.int (p2.toInt16.toInt32)), .val (.int j1_0), .val (.int (1 : Int32)), .val (.int j57_0), .val (.ref b58), .val (.ref b61), .val (.ref b61), .val .null, .val (.ref b64)] [(.long q3), (.int (p2.toInt16.toInt32)), (.ref b64)]))
          refine Goes.pre (fun t kt => XS.lload X67.here hx rfl (hb hby at_174) rfl kt) ?_
          show Goes p e below s _ _ _ (T67.setTop (mkF m 176 #[.val (.long q1), .second, .val (.int p2), .val (.long q3), .second, .val (.long q4), .second, .val (.long q5), .second, .val (.int p6), .val (.int (p2.toInt16.toInt32)), .val (.int j1_0), .val (.int (1 : Int32)), .val (.int j57_0), .val (.ref b58), .val (.ref b61), .val (.ref b61), .val .null, .val (.ref b64)] [(.long q4), (.long q3), (.int (p2.toInt16.toInt32)), (.ref b64)]))
          refine Goes.pre (fun t kt => XS.aload X67.here hx rfl (hb hby at_176) rfl rfl kt) ?_
          show Goes p e below s _ _ _ (T67.setTop (mkF m 178 #[.val (.long q1), .second, .val (.int p2), .val (.long q3), .second, .val (.long q4), .second, .val (.long q5), .second, .val (.int p6), .val (.int (p2.toInt16.toInt32)), .val (.int j1_0), .val (.int (1 : Int32)), .val (.int j57_0), .val (.ref b58), .val (.ref b61), .val (.ref b61), .val .null, .val (.ref b64)] [(.ref b61), (.long q4), (.long q3), (.int (p2.toInt16.toInt32)), (.ref b64)]))
          refine Goes.pre (fun t kt => XS.lload X67.here hx rfl (hb hby at_178) rfl kt) ?_
          show Goes p e below s _ _ _ (T67.setTop (mkF m 180 #[.val (.long q1), .second, .val (.int p2), .val (.long q3), .second, .val (.long q4), .second, .val (.long q5), .second, .val (.int p6), .val (.int (p2.toInt16.toInt32)), .val (.int j1_0), .val (.int (1 : Int32)), .val (.int j57_0), .val (.ref b58), .val (.ref b61), .val (.ref b61), .val .null, .val (.ref b64)] [(.long q5), (.ref b61), (.long q4), (.long q3), (.int (p2.toInt16.toInt32)), (.ref b64)]))
          refine Goes.pre (fun t kt => XS.iload X67.here hx rfl (hb hby at_180) rfl kt) ?_
          show Goes p e below s _ _ _ (T67.setTop (mkF m 182 #[.val (.long q1), .second, .val (.int p2), .val (.long q3), .second, .val (.long q4), .second, .val (.long q5), .second, .val (.int p6), .val (.int (p2.toInt16.toInt32)), .val (.int j1_0), .val (.int (1 : Int32)), .val (.int j57_0), .val (.ref b58), .val (.ref b61), .val (.ref b61), .val .null, .val (.ref b64)] [(.int j1_0), (.long q5), (.ref b61), (.long q4), (.long q3), (.int (p2.toInt16.toInt32)), (.ref b64)]))
          have fc68 : Exa Z h67 b64 "com/example/seqlint/seqlint/kafka/Transaction" := (A64.keep Kq67)
          obtain ⟨cq70, kq70, qa70, qb70, qc70⟩ := isOf hZ e67 fc68
          obtain ⟨_, _, ⟨T69, L69, k69, n69⟩, -, X69, ⟨Lc69, hQ69, l69, y69, z69⟩, st69⟩ := X67.virtualBack hx (y := (⟨"com/example/seqlint/seqlint/kafka/Transaction", "open", "(SJJLjava/lang/String;JZ)V"⟩ : MethodName)) (z := (⟨"com/example/seqlint/seqlint/kafka/Transaction", "open", "(SJJLjava/lang/String;JZ)V"⟩ : MethodName)) hown (mvT hZ (hw _ (List.mem_of_getElem? (i := 45) rfl))) (mvT hZ (hw _ (List.mem_of_getElem? (i := 46) rfl))) (notFace_of_selects (args := #[]) (mvT hZ (hw _ (List.mem_of_getElem? (i := 48) rfl)))) (mvT hZ (hw _ (List.mem_of_getElem? (i := 48) rfl))) (mvT hZ (hw _ (List.mem_of_getElem? (i := 47) rfl))) (by decide) (backOf (W := 0) (rm8r l Z a0 hw [] b64 (p2.toInt16.toInt32) q3 q4 b61 q5 j1_0 (.int (0 : Int32)) (.int (-2147483648 : Int32)) (.long (0 : Int64)) (.long (0 : Int64)) .null (.long (0 : Int64)) (.int (0 : Int32)) h67 n0 Z67 fc68 gg64 pq67_1 pq67_0 pq67_2 pq67_3 pq67_4 pq67_5 pq67_6) hZ (hw _ (List.mem_of_getElem? (i := 49) rfl)) (hw _ (List.mem_of_getElem? (i := 32) rfl)) (by decide) (by decide)) qa70 qc70 (g := (mkF m 182 #[.val (.long q1), .second, .val (.int p2), .val (.long q3), .second, .val (.long q4), .second, .val (.long q5), .second, .val (.int p6), .val (.int (p2.toInt16.toInt32)), .val (.int j1_0), .val (.int (1 : Int32)), .val (.int j57_0), .val (.ref b58), .val (.ref b61), .val (.ref b61), .val .null, .val (.ref b64)] [(.int j1_0), (.long q5), (.ref b61), (.long q4), (.long q3), (.int (p2.toInt16.toInt32)), (.ref b64)])) rfl (by rw [hml]; rfl) (Steps.refl _) (argsL := [(.int (p2.toInt16.toInt32)), (.long q3), (.long q4), (.ref b61), (.long q5), (.int j1_0)]) (rest := []) (lenOf pd_3 rfl) rfl (by show 2 * 0 + _ ≤ _; exact Nat.le_of_eq rfl) (hb hby at_182) (fun _ _ => ⟨rfl, e67, (by decide : 4 + 0 ≤ _), (by decide : 17 + 0 ≤ _)⟩)
          dsimp only [Pt.U, Pt.locs, Pt.cells, Pt.slots] at X69 l69 y69 z69 st69 hQ69
          subst l69 y69 z69
          obtain ⟨rfl, Nq69, Kq69, pq69_0, pq69_1, pq69_2, pq69_3, pq69_4, pq69_5, pq69_6⟩ := hQ69
          refine Goes.run st69 ?_
          have N69 := Fr.app N67 Nq69
          obtain ⟨h69, e69⟩ : ∃ z, T69.heap = z := ⟨_, rfl⟩
          rw [e69] at Kq69 pq69_0 pq69_1 pq69_2 pq69_3 pq69_4 pq69_5 pq69_6
          have Z69 : n0 ≤ h69.size := Nat.le_trans Z67 Kq69.1
          have Od69 := Od67.keep Kq69 (allS gg64 all0)
          show Goes p e below s _ _ _ (T69.setTop (mkF m 185 #[.val (.long q1), .second, .val (.int p2), .val (.long q3), .second, .val (.long q4), .second, .val (.long q5), .second, .val (.int p6), .val (.int (p2.toInt16.toInt32)), .val (.int j1_0), .val (.int (1 : Int32)), .val (.int j57_0), .val (.ref b58), .val (.ref b61), .val (.ref b61), .val .null, .val (.ref b64)] []))
          refine Goes.pre (fun t kt => XS.aload X69.here hx rfl (hb hby at_185) rfl rfl kt) ?_
          show Goes p e below s _ _ _ (T69.setTop (mkF m 187 #[.val (.long q1), .second, .val (.int p2), .val (.long q3), .second, .val (.long q4), .second, .val (.long q5), .second, .val (.int p6), .val (.int (p2.toInt16.toInt32)), .val (.int j1_0), .val (.int (1 : Int32)), .val (.int j57_0), .val (.ref b58), .val (.ref b61), .val (.ref b61), .val .null, .val (.ref b64)] [(.ref b64)]))
          have fc73 : Exa Z h69 b64 "com/example/seqlint/seqlint/kafka/Transaction" := (fc68.keep Kq69)
          obtain ⟨cq72, kq72, qa72, qb72, qc72⟩ := isOf hZ e69 fc73
          obtain ⟨_, _, ⟨T71, L71, k71, n71⟩, -, X71, ⟨Lc71, hQ71, l71, y71, z71⟩, st71⟩ := X69.virtualBack hx (y := (⟨"com/example/seqlint/seqlint/kafka/Transaction", "isOpen", "()Z"⟩ : MethodName)) (z := (⟨"com/example/seqlint/seqlint/kafka/Transaction", "isOpen", "()Z"⟩ : MethodName)) hown (mvT hZ (hw _ (List.mem_of_getElem? (i := 62) rfl))) (mvT hZ (hw _ (List.mem_of_getElem? (i := 63) rfl))) (notFace_of_selects (args := #[]) (mvT hZ (hw _ (List.mem_of_getElem? (i := 65) rfl)))) (mvT hZ (hw _ (List.mem_of_getElem? (i := 65) rfl))) (mvT hZ (hw _ (List.mem_of_getElem? (i := 64) rfl))) (by decide) (backOf (W := 0) (rm9 l Z a0 hw [] b64 h69 n0 Z69 pq69_0) hZ (hw _ (List.mem_of_getElem? (i := 66) rfl)) (hw _ (List.mem_of_getElem? (i := 32) rfl)) (by decide) (by decide)) qa72 qc72 (g := (mkF m 187 #[.val (.long q1), .second, .val (.int p2), .val (.long q3), .second, .val (.long q4), .second, .val (.long q5), .second, .val (.int p6), .val (.int (p2.toInt16.toInt32)), .val (.int j1_0), .val (.int (1 : Int32)), .val (.int j57_0), .val (.ref b58), .val (.ref b61), .val (.ref b61), .val .null, .val (.ref b64)] [(.ref b64)])) rfl (by rw [hml]; rfl) (Steps.refl _) (argsL := []) (rest := []) (lenOf pd_4 rfl) rfl (by show 2 * 0 + _ ≤ _; exact Nat.le_of_eq rfl) (hb hby at_187) (fun _ _ => ⟨rfl, e69, (by decide : 4 + 0 ≤ _), (by decide : 17 + 0 ≤ _)⟩)
          dsimp only [Pt.U, Pt.locs, Pt.cells, Pt.slots] at X71 l71 y71 z71 st71 hQ71
          subst l71 y71 z71
          obtain ⟨rfl, Nq71, eq71⟩ := hQ71
          refine Goes.run st71 ?_
          have N71 := Fr.app N69 Nq71
          show Goes p e below s _ _ _ (T71.setTop (mkF m 190 #[.val (.long q1), .second, .val (.int p2), .val (.long q3), .second, .val (.long q4), .second, .val (.long q5), .second, .val (.int p6), .val (.int (p2.toInt16.toInt32)), .val (.int j1_0), .val (.int (1 : Int32)), .val (.int j57_0), .val (.ref b58), .val (.ref b61), .val (.ref b61), .val .null, .val (.ref b64)] [(.int (1 : Int32))]))
          refine Goes.pre (fun t kt => XS.ifNo X71.here hx rfl (hb hby at_190) rfl (Jvm.Free.XT.i0_eq_f ((by decide))) kt) ?_
          show Goes p e below s _ _ _ (T71.setTop (mkF m 193 #[.val (.long q1), .second, .val (.int p2), .val (.long q3), .second, .val (.long q4), .second, .val (.long q5), .second, .val (.int p6), .val (.int (p2.toInt16.toInt32)), .val (.int j1_0), .val (.int (1 : Int32)), .val (.int j57_0), .val (.ref b58), .val (.ref b61), .val (.ref b61), .val .null, .val (.ref b64)] []))
          refine Goes.pre (fun t kt => XS.aload X71.here hx rfl (hb hby at_193) rfl rfl kt) ?_
          show Goes p e below s _ _ _ (T71.setTop (mkF m 195 #[.val (.long q1), .second, .val (.int p2), .val (.long q3), .second, .val (.long q4), .second, .val (.long q5), .second, .val (.int p6), .val (.int (p2.toInt16.toInt32)), .val (.int j1_0), .val (.int (1 : Int32)), .val (.int j57_0), .val (.ref b58), .val (.ref b61), .val (.ref b61), .val .null, .val (.ref b64)] [(.ref b64)]))
          obtain ⟨cq75, kq75, qa75, qb75, qc75⟩ := isOf hZ eq71 fc73
          obtain ⟨_, _, ⟨T74, L74, k74, n74⟩, -, X74, ⟨Lc74, hQ74, l74, y74, z74⟩, st74⟩ := X71.virtualBack hx (y := (⟨"com/example/seqlint/seqlint/kafka/Transaction", "epoch", "()S"⟩ : MethodName)) (z := (⟨"com/example/seqlint/seqlint/kafka/Transaction", "epoch", "()S"⟩ : MethodName)) hown (mvT hZ (hw _ (List.mem_of_getElem? (i := 67) rfl))) (mvT hZ (hw _ (List.mem_of_getElem? (i := 68) rfl))) (notFace_of_selects (args := #[]) (mvT hZ (hw _ (List.mem_of_getElem? (i := 70) rfl)))) (mvT hZ (hw _ (List.mem_of_getElem? (i := 70) rfl))) (mvT hZ (hw _ (List.mem_of_getElem? (i := 69) rfl))) (by decide) (backOf (W := 0) (rm10 l Z a0 hw [] b64 (p2.toInt16.toInt32) h69 n0 Z69 pq69_1) hZ (hw _ (List.mem_of_getElem? (i := 71) rfl)) (hw _ (List.mem_of_getElem? (i := 32) rfl)) (by decide) (by decide)) qa75 qc75 (g := (mkF m 195 #[.val (.long q1), .second, .val (.int p2), .val (.long q3), .second, .val (.long q4), .second, .val (.long q5), .second, .val (.int p6), .val (.int (p2.toInt16.toInt32)), .val (.int j1_0), .val (.int (1 : Int32)), .val (.int j57_0), .val (.ref b58), .val (.ref b61), .val (.ref b61), .val .null, .val (.ref b64)] [(.ref b64)])) rfl (by rw [hml]; rfl) (Steps.refl _) (argsL := []) (rest := []) (lenOf pd_5 rfl) rfl (by show 2 * 0 + _ ≤ _; exact Nat.le_of_eq rfl) (hb hby at_195) (fun _ _ => ⟨rfl, eq71, (by decide : 4 + 0 ≤ _), (by decide : 17 + 0 ≤ _)⟩)
          dsimp only [Pt.U, Pt.locs, Pt.cells, Pt.slots] at X74 l74 y74 z74 st74 hQ74
          subst l74 y74 z74
          obtain ⟨rfl, Nq74, eq74⟩ := hQ74
          refine Goes.run st74 ?_
          have N74 := Fr.app N71 Nq74
          show Goes p e below s _ _ _ (T74.setTop (mkF m 198 #[.val (.long q1), .second, .val (.int p2), .val (.long q3), .second, .val (.long q4), .second, .val (.long q5), .second, .val (.int p6), .val (.int (p2.toInt16.toInt32)), .val (.int j1_0), .val (.int (1 : Int32)), .val (.int j57_0), .val (.ref b58), .val (.ref b61), .val (.ref b61), .val .null, .val (.ref b64)] [(.int (((p2.toInt16.toInt32).toInt16.toInt32).toInt16.toInt32))]))
          refine Goes.pre (fun t kt => XS.iload X74.here hx rfl (hb hby at_198) rfl kt) ?_
          show Goes p e below s _ _ _ (T74.setTop (mkF m 200 #[.val (.long q1), .second, .val (.int p2), .val (.long q3), .second, .val (.long q4), .second, .val (.long q5), .second, .val (.int p6), .val (.int (p2.toInt16.toInt32)), .val (.int j1_0), .val (.int (1 : Int32)), .val (.int j57_0), .val (.ref b58), .val (.ref b61), .val (.ref b61), .val .null, .val (.ref b64)] [(.int (p2.toInt16.toInt32)), (.int (((p2.toInt16.toInt32).toInt16.toInt32).toInt16.toInt32))]))
          refine Goes.pre (fun t kt => XS.icmpNo X74.here hx rfl (hb hby at_200) rfl (Jvm.Free.XT.ii_ne_f ((own_short _))) kt) ?_
          show Goes p e below s _ _ _ (T74.setTop (mkF m 203 #[.val (.long q1), .second, .val (.int p2), .val (.long q3), .second, .val (.long q4), .second, .val (.long q5), .second, .val (.int p6), .val (.int (p2.toInt16.toInt32)), .val (.int j1_0), .val (.int (1 : Int32)), .val (.int j57_0), .val (.ref b58), .val (.ref b61), .val (.ref b61), .val .null, .val (.ref b64)] []))
          refine Goes.pre (fun t kt => XS.aload X74.here hx rfl (hb hby at_203) rfl rfl kt) ?_
          show Goes p e below s _ _ _ (T74.setTop (mkF m 205 #[.val (.long q1), .second, .val (.int p2), .val (.long q3), .second, .val (.long q4), .second, .val (.long q5), .second, .val (.int p6), .val (.int (p2.toInt16.toInt32)), .val (.int j1_0), .val (.int (1 : Int32)), .val (.int j57_0), .val (.ref b58), .val (.ref b61), .val (.ref b61), .val .null, .val (.ref b64)] [(.ref b64)]))
          obtain ⟨cq77, kq77, qa77, qb77, qc77⟩ := isOf hZ eq74 fc73
          obtain ⟨_, _, ⟨T76, L76, k76, n76⟩, -, X76, ⟨Lc76, hQ76, l76, y76, z76⟩, st76⟩ := X74.virtualBack hx (y := (⟨"com/example/seqlint/seqlint/kafka/Transaction", "hasEpoch", "()Z"⟩ : MethodName)) (z := (⟨"com/example/seqlint/seqlint/kafka/Transaction", "hasEpoch", "()Z"⟩ : MethodName)) hown (mvT hZ (hw _ (List.mem_of_getElem? (i := 72) rfl))) (mvT hZ (hw _ (List.mem_of_getElem? (i := 73) rfl))) (notFace_of_selects (args := #[]) (mvT hZ (hw _ (List.mem_of_getElem? (i := 75) rfl)))) (mvT hZ (hw _ (List.mem_of_getElem? (i := 75) rfl))) (mvT hZ (hw _ (List.mem_of_getElem? (i := 74) rfl))) (by decide) (backOf (W := 0) (rm11 l Z a0 hw [] b64 (p2.toInt16.toInt32) h69 n0 Z69 pq69_1 (own_noMin _)) hZ (hw _ (List.mem_of_getElem? (i := 76) rfl)) (hw _ (List.mem_of_getElem? (i := 32) rfl)) (by decide) (by decide)) qa77 qc77 (g := (mkF m 205 #[.val (.long q1), .second, .val (.int p2), .val (.long q3), .second, .val (.long q4), .second, .val (.long q5), .second, .val (.int p6), .val (.int (p2.toInt16.toInt32)), .val (.int j1_0), .val (.int (1 : Int32)), .val (.int j57_0), .val (.ref b58), .val (.ref b61), .val (.ref b61), .val .null, .val (.ref b64)] [(.ref b64)])) rfl (by rw [hml]; rfl) (Steps.refl _) (argsL := []) (rest := []) (lenOf pd_4 rfl) rfl (by show 2 * 0 + _ ≤ _; exact Nat.le_of_eq rfl) (hb hby at_205) (fun _ _ => ⟨rfl, eq74, (by decide : 4 + 0 ≤ _), (by decide : 17 + 0 ≤ _)⟩)
          dsimp only [Pt.U, Pt.locs, Pt.cells, Pt.slots] at X76 l76 y76 z76 st76 hQ76
          subst l76 y76 z76
          obtain ⟨rfl, Nq76, eq76⟩ := hQ76
          refine Goes.run st76 ?_
          have N76 := Fr.app N74 Nq76
          show Goes p e below s _ _ _ (T76.setTop (mkF m 208 #[.val (.long q1), .second, .val (.int p2), .val (.long q3), .second, .val (.long q4), .second, .val (.long q5), .second, .val (.int p6), .val (.int (p2.toInt16.toInt32)), .val (.int j1_0), .val (.int (1 : Int32)), .val (.int j57_0), .val (.ref b58), .val (.ref b61), .val (.ref b61), .val .null, .val (.ref b64)] [(.int (1 : Int32))]))
          refine Goes.pre (fun t kt => XS.ifNo X76.here hx rfl (hb hby at_208) rfl (Jvm.Free.XT.i0_eq_f ((by decide))) kt) ?_
          show Goes p e below s _ _ _ (T76.setTop (mkF m 211 #[.val (.long q1), .second, .val (.int p2), .val (.long q3), .second, .val (.long q4), .second, .val (.long q5), .second, .val (.int p6), .val (.int (p2.toInt16.toInt32)), .val (.int j1_0), .val (.int (1 : Int32)), .val (.int j57_0), .val (.ref b58), .val (.ref b61), .val (.ref b61), .val .null, .val (.ref b64)] []))
          refine Goes.pre (fun t kt => XS.aload X76.here hx rfl (hb hby at_211) rfl rfl kt) ?_
          show Goes p e below s _ _ _ (T76.setTop (mkF m 213 #[.val (.long q1), .second, .val (.int p2), .val (.long q3), .second, .val (.long q4), .second, .val (.long q5), .second, .val (.int p6), .val (.int (p2.toInt16.toInt32)), .val (.int j1_0), .val (.int (1 : Int32)), .val (.int j57_0), .val (.ref b58), .val (.ref b61), .val (.ref b61), .val .null, .val (.ref b64)] [(.ref b64)]))
          obtain ⟨cq79, kq79, qa79, qb79, qc79⟩ := isOf hZ eq76 fc73
          obtain ⟨_, _, ⟨T78, L78, k78, n78⟩, -, X78, ⟨Lc78, hQ78, l78, y78, z78⟩, st78⟩ := X76.virtualBack hx (y := (⟨"com/example/seqlint/seqlint/kafka/Transaction", "firstOffset", "()J"⟩ : MethodName)) (z := (⟨"com/example/seqlint/seqlint/kafka/Transaction", "firstOffset", "()J"⟩ : MethodName)) hown (mvT hZ (hw _ (List.mem_of_getElem? (i := 77) rfl))) (mvT hZ (hw _ (List.mem_of_getElem? (i := 78) rfl))) (notFace_of_selects (args := #[]) (mvT hZ (hw _ (List.mem_of_getElem? (i := 80) rfl)))) (mvT hZ (hw _ (List.mem_of_getElem? (i := 80) rfl))) (mvT hZ (hw _ (List.mem_of_getElem? (i := 79) rfl))) (by decide) (backOf (W := 0) (rm12 l Z a0 hw [] b64 q3 h69 n0 Z69 pq69_2) hZ (hw _ (List.mem_of_getElem? (i := 81) rfl)) (hw _ (List.mem_of_getElem? (i := 32) rfl)) (by decide) (by decide)) qa79 qc79 (g := (mkF m 213 #[.val (.long q1), .second, .val (.int p2), .val (.long q3), .second, .val (.long q4), .second, .val (.long q5), .second, .val (.int p6), .val (.int (p2.toInt16.toInt32)), .val (.int j1_0), .val (.int (1 : Int32)), .val (.int j57_0), .val (.ref b58), .val (.ref b61), .val (.ref b61), .val .null, .val (.ref b64)] [(.ref b64)])) rfl (by rw [hml]; rfl) (Steps.refl _) (argsL := []) (rest := []) (lenOf pd_6 rfl) rfl (by show 2 * 0 + _ ≤ _; exact Nat.le_of_eq rfl) (hb hby at_213) (fun _ _ => ⟨rfl, eq76, (by decide : 4 + 0 ≤ _), (by decide : 17 + 0 ≤ _)⟩)
          dsimp only [Pt.U, Pt.locs, Pt.cells, Pt.slots] at X78 l78 y78 z78 st78 hQ78
          subst l78 y78 z78
          obtain ⟨rfl, Nq78, eq78⟩ := hQ78
          refine Goes.run st78 ?_
          have N78 := Fr.app N76 Nq78
          show Goes p e below s _ _ _ (T78.setTop (mkF m 216 #[.val (.long q1), .second, .val (.int p2), .val (.long q3), .second, .val (.long q4), .second, .val (.long q5), .second, .val (.int p6), .val (.int (p2.toInt16.toInt32)), .val (.int j1_0), .val (.int (1 : Int32)), .val (.int j57_0), .val (.ref b58), .val (.ref b61), .val (.ref b61), .val .null, .val (.ref b64)] [(.long q3)]))
          refine Goes.pre (fun t kt => XS.lloadN X78.here hx rfl (hb hby at_216) rfl kt) ?_
          show Goes p e below s _ _ _ (T78.setTop (mkF m 217 #[.val (.long q1), .second, .val (.int p2), .val (.long q3), .second, .val (.long q4), .second, .val (.long q5), .second, .val (.int p6), .val (.int (p2.toInt16.toInt32)), .val (.int j1_0), .val (.int (1 : Int32)), .val (.int j57_0), .val (.ref b58), .val (.ref b61), .val (.ref b61), .val .null, .val (.ref b64)] [(.long q3), (.long q3)]))
          refine Goes.pre (fun t kt => XS.lcmp X78.here hx rfl (hb hby at_217) rfl kt) ?_
          show Goes p e below s _ _ _ (T78.setTop (mkF m 218 #[.val (.long q1), .second, .val (.int p2), .val (.long q3), .second, .val (.long q4), .second, .val (.long q5), .second, .val (.int p6), .val (.int (p2.toInt16.toInt32)), .val (.int j1_0), .val (.int (1 : Int32)), .val (.int j57_0), .val (.ref b58), .val (.ref b61), .val (.ref b61), .val .null, .val (.ref b64)] [(.int (lcmpW q3 q3))]))
          refine Goes.pre (fun t kt => XS.ifNo X78.here hx rfl (hb hby at_218) rfl (Jvm.Free.XT.i0_ne_f ((lw_eq _ _).mpr rfl)) kt) ?_
          show Goes p e below s _ _ _ (T78.setTop (mkF m 221 #[.val (.long q1), .second, .val (.int p2), .val (.long q3), .second, .val (.long q4), .second, .val (.long q5), .second, .val (.int p6), .val (.int (p2.toInt16.toInt32)), .val (.int j1_0), .val (.int (1 : Int32)), .val (.int j57_0), .val (.ref b58), .val (.ref b61), .val (.ref b61), .val .null, .val (.ref b64)] []))
          refine Goes.pre (fun t kt => XS.aload X78.here hx rfl (hb hby at_221) rfl rfl kt) ?_
          show Goes p e below s _ _ _ (T78.setTop (mkF m 223 #[.val (.long q1), .second, .val (.int p2), .val (.long q3), .second, .val (.long q4), .second, .val (.long q5), .second, .val (.int p6), .val (.int (p2.toInt16.toInt32)), .val (.int j1_0), .val (.int (1 : Int32)), .val (.int j57_0), .val (.ref b58), .val (.ref b61), .val (.ref b61), .val .null, .val (.ref b64)] [(.ref b64)]))
          obtain ⟨cq81, kq81, qa81, qb81, qc81⟩ := isOf hZ eq78 fc73
          obtain ⟨_, _, ⟨T80, L80, k80, n80⟩, -, X80, ⟨Lc80, hQ80, l80, y80, z80⟩, st80⟩ := X78.virtualBack hx (y := (⟨"com/example/seqlint/seqlint/kafka/Transaction", "position", "()J"⟩ : MethodName)) (z := (⟨"com/example/seqlint/seqlint/kafka/Transaction", "position", "()J"⟩ : MethodName)) hown (mvT hZ (hw _ (List.mem_of_getElem? (i := 82) rfl))) (mvT hZ (hw _ (List.mem_of_getElem? (i := 83) rfl))) (notFace_of_selects (args := #[]) (mvT hZ (hw _ (List.mem_of_getElem? (i := 85) rfl)))) (mvT hZ (hw _ (List.mem_of_getElem? (i := 85) rfl))) (mvT hZ (hw _ (List.mem_of_getElem? (i := 84) rfl))) (by decide) (backOf (W := 0) (rm13 l Z a0 hw [] b64 q4 h69 n0 Z69 pq69_3) hZ (hw _ (List.mem_of_getElem? (i := 86) rfl)) (hw _ (List.mem_of_getElem? (i := 32) rfl)) (by decide) (by decide)) qa81 qc81 (g := (mkF m 223 #[.val (.long q1), .second, .val (.int p2), .val (.long q3), .second, .val (.long q4), .second, .val (.long q5), .second, .val (.int p6), .val (.int (p2.toInt16.toInt32)), .val (.int j1_0), .val (.int (1 : Int32)), .val (.int j57_0), .val (.ref b58), .val (.ref b61), .val (.ref b61), .val .null, .val (.ref b64)] [(.ref b64)])) rfl (by rw [hml]; rfl) (Steps.refl _) (argsL := []) (rest := []) (lenOf pd_6 rfl) rfl (by show 2 * 0 + _ ≤ _; exact Nat.le_of_eq rfl) (hb hby at_223) (fun _ _ => ⟨rfl, eq78, (by decide : 4 + 0 ≤ _), (by decide : 17 + 0 ≤ _)⟩)
          dsimp only [Pt.U, Pt.locs, Pt.cells, Pt.slots] at X80 l80 y80 z80 st80 hQ80
          subst l80 y80 z80
          obtain ⟨rfl, Nq80, eq80⟩ := hQ80
          refine Goes.run st80 ?_
          have N80 := Fr.app N78 Nq80
          show Goes p e below s _ _ _ (T80.setTop (mkF m 226 #[.val (.long q1), .second, .val (.int p2), .val (.long q3), .second, .val (.long q4), .second, .val (.long q5), .second, .val (.int p6), .val (.int (p2.toInt16.toInt32)), .val (.int j1_0), .val (.int (1 : Int32)), .val (.int j57_0), .val (.ref b58), .val (.ref b61), .val (.ref b61), .val .null, .val (.ref b64)] [(.long q4)]))
          refine Goes.pre (fun t kt => XS.lload X80.here hx rfl (hb hby at_226) rfl kt) ?_
          show Goes p e below s _ _ _ (T80.setTop (mkF m 228 #[.val (.long q1), .second, .val (.int p2), .val (.long q3), .second, .val (.long q4), .second, .val (.long q5), .second, .val (.int p6), .val (.int (p2.toInt16.toInt32)), .val (.int j1_0), .val (.int (1 : Int32)), .val (.int j57_0), .val (.ref b58), .val (.ref b61), .val (.ref b61), .val .null, .val (.ref b64)] [(.long q4), (.long q4)]))
          refine Goes.pre (fun t kt => XS.lcmp X80.here hx rfl (hb hby at_228) rfl kt) ?_
          show Goes p e below s _ _ _ (T80.setTop (mkF m 229 #[.val (.long q1), .second, .val (.int p2), .val (.long q3), .second, .val (.long q4), .second, .val (.long q5), .second, .val (.int p6), .val (.int (p2.toInt16.toInt32)), .val (.int j1_0), .val (.int (1 : Int32)), .val (.int j57_0), .val (.ref b58), .val (.ref b61), .val (.ref b61), .val .null, .val (.ref b64)] [(.int (lcmpW q4 q4))]))
          refine Goes.pre (fun t kt => XS.ifNo X80.here hx rfl (hb hby at_229) rfl (Jvm.Free.XT.i0_ne_f ((lw_eq _ _).mpr rfl)) kt) ?_
          show Goes p e below s _ _ _ (T80.setTop (mkF m 232 #[.val (.long q1), .second, .val (.int p2), .val (.long q3), .second, .val (.long q4), .second, .val (.long q5), .second, .val (.int p6), .val (.int (p2.toInt16.toInt32)), .val (.int j1_0), .val (.int (1 : Int32)), .val (.int j57_0), .val (.ref b58), .val (.ref b61), .val (.ref b61), .val .null, .val (.ref b64)] []))
          refine Goes.pre (fun t kt => XS.aload X80.here hx rfl (hb hby at_232) rfl rfl kt) ?_
          show Goes p e below s _ _ _ (T80.setTop (mkF m 234 #[.val (.long q1), .second, .val (.int p2), .val (.long q3), .second, .val (.long q4), .second, .val (.long q5), .second, .val (.int p6), .val (.int (p2.toInt16.toInt32)), .val (.int j1_0), .val (.int (1 : Int32)), .val (.int j57_0), .val (.ref b58), .val (.ref b61), .val (.ref b61), .val .null, .val (.ref b64)] [(.ref b64)]))
          obtain ⟨cq83, kq83, qa83, qb83, qc83⟩ := isOf hZ eq80 fc73
          obtain ⟨_, _, ⟨T82, L82, k82, n82⟩, -, X82, ⟨Lc82, hQ82, l82, y82, z82⟩, st82⟩ := X80.virtualBack hx (y := (⟨"com/example/seqlint/seqlint/kafka/Transaction", "file", "()Ljava/lang/String;"⟩ : MethodName)) (z := (⟨"com/example/seqlint/seqlint/kafka/Transaction", "file", "()Ljava/lang/String;"⟩ : MethodName)) hown (mvT hZ (hw _ (List.mem_of_getElem? (i := 87) rfl))) (mvT hZ (hw _ (List.mem_of_getElem? (i := 88) rfl))) (notFace_of_selects (args := #[]) (mvT hZ (hw _ (List.mem_of_getElem? (i := 90) rfl)))) (mvT hZ (hw _ (List.mem_of_getElem? (i := 90) rfl))) (mvT hZ (hw _ (List.mem_of_getElem? (i := 89) rfl))) (by decide) (backOf (W := 0) (rm14r l Z a0 hw [] b64 b61 h69 n0 Z69 pq69_4) hZ (hw _ (List.mem_of_getElem? (i := 91) rfl)) (hw _ (List.mem_of_getElem? (i := 32) rfl)) (by decide) (by decide)) qa83 qc83 (g := (mkF m 234 #[.val (.long q1), .second, .val (.int p2), .val (.long q3), .second, .val (.long q4), .second, .val (.long q5), .second, .val (.int p6), .val (.int (p2.toInt16.toInt32)), .val (.int j1_0), .val (.int (1 : Int32)), .val (.int j57_0), .val (.ref b58), .val (.ref b61), .val (.ref b61), .val .null, .val (.ref b64)] [(.ref b64)])) rfl (by rw [hml]; rfl) (Steps.refl _) (argsL := []) (rest := []) (lenOf pd_7 rfl) rfl (by show 2 * 0 + _ ≤ _; exact Nat.le_of_eq rfl) (hb hby at_234) (fun _ _ => ⟨rfl, eq80, (by decide : 4 + 0 ≤ _), (by decide : 17 + 0 ≤ _)⟩)
          dsimp only [Pt.U, Pt.locs, Pt.cells, Pt.slots] at X82 l82 y82 z82 st82 hQ82
          subst l82 y82 z82
          obtain ⟨rfl, Nq82, eq82⟩ := hQ82
          refine Goes.run st82 ?_
          have N82 := Fr.app N80 Nq82
          show Goes p e below s _ _ _ (T82.setTop (mkF m 237 #[.val (.long q1), .second, .val (.int p2), .val (.long q3), .second, .val (.long q4), .second, .val (.long q5), .second, .val (.int p6), .val (.int (p2.toInt16.toInt32)), .val (.int j1_0), .val (.int (1 : Int32)), .val (.int j57_0), .val (.ref b58), .val (.ref b61), .val (.ref b61), .val .null, .val (.ref b64)] [(.ref b61)]))
          refine Goes.pre (fun t kt => XS.aload X82.here hx rfl (hb hby at_237) rfl rfl kt) ?_
          show Goes p e below s _ _ _ (T82.setTop (mkF m 239 #[.val (.long q1), .second, .val (.int p2), .val (.long q3), .second, .val (.long q4), .second, .val (.long q5), .second, .val (.int p6), .val (.int (p2.toInt16.toInt32)), .val (.int j1_0), .val (.int (1 : Int32)), .val (.int j57_0), .val (.ref b58), .val (.ref b61), .val (.ref b61), .val .null, .val (.ref b64)] [(.ref b61), (.ref b61)]))
          refine Goes.pre (fun t kt => Jvm.RoadKit.acmp (g := (mkF m 239 #[.val (.long q1), .second, .val (.int p2), .val (.long q3), .second, .val (.long q4), .second, .val (.long q5), .second, .val (.int p6), .val (.int (p2.toInt16.toInt32)), .val (.int j1_0), .val (.int (1 : Int32)), .val (.int j57_0), .val (.ref b58), .val (.ref b61), .val (.ref b61), .val .null, .val (.ref b64)] [(.ref b61), (.ref b61)])) X82 hx rfl rfl rfl (pc0 := 239) (pc' := 242) (same := true) rfl (hb hby at_239) rfl (decide_eq_true rfl) (by decide) (by decide) kt) ?_
          show Goes p e below s _ _ _ (T82.setTop (mkF m 242 #[.val (.long q1), .second, .val (.int p2), .val (.long q3), .second, .val (.long q4), .second, .val (.long q5), .second, .val (.int p6), .val (.int (p2.toInt16.toInt32)), .val (.int j1_0), .val (.int (1 : Int32)), .val (.int j57_0), .val (.ref b58), .val (.ref b61), .val (.ref b61), .val .null, .val (.ref b64)] []))
          refine Goes.pre (fun t kt => XS.aload X82.here hx rfl (hb hby at_242) rfl rfl kt) ?_
          show Goes p e below s _ _ _ (T82.setTop (mkF m 244 #[.val (.long q1), .second, .val (.int p2), .val (.long q3), .second, .val (.long q4), .second, .val (.long q5), .second, .val (.int p6), .val (.int (p2.toInt16.toInt32)), .val (.int j1_0), .val (.int (1 : Int32)), .val (.int j57_0), .val (.ref b58), .val (.ref b61), .val (.ref b61), .val .null, .val (.ref b64)] [(.ref b64)]))
          obtain ⟨cq85, kq85, qa85, qb85, qc85⟩ := isOf hZ eq82 fc73
          obtain ⟨_, _, ⟨T84, L84, k84, n84⟩, -, X84, ⟨Lc84, hQ84, l84, y84, z84⟩, st84⟩ := X82.virtualBack hx (y := (⟨"com/example/seqlint/seqlint/kafka/Transaction", "firstTimestamp", "()J"⟩ : MethodName)) (z := (⟨"com/example/seqlint/seqlint/kafka/Transaction", "firstTimestamp", "()J"⟩ : MethodName)) hown (mvT hZ (hw _ (List.mem_of_getElem? (i := 92) rfl))) (mvT hZ (hw _ (List.mem_of_getElem? (i := 93) rfl))) (notFace_of_selects (args := #[]) (mvT hZ (hw _ (List.mem_of_getElem? (i := 95) rfl)))) (mvT hZ (hw _ (List.mem_of_getElem? (i := 95) rfl))) (mvT hZ (hw _ (List.mem_of_getElem? (i := 94) rfl))) (by decide) (backOf (W := 0) (rm15 l Z a0 hw [] b64 q5 h69 n0 Z69 pq69_5) hZ (hw _ (List.mem_of_getElem? (i := 96) rfl)) (hw _ (List.mem_of_getElem? (i := 32) rfl)) (by decide) (by decide)) qa85 qc85 (g := (mkF m 244 #[.val (.long q1), .second, .val (.int p2), .val (.long q3), .second, .val (.long q4), .second, .val (.long q5), .second, .val (.int p6), .val (.int (p2.toInt16.toInt32)), .val (.int j1_0), .val (.int (1 : Int32)), .val (.int j57_0), .val (.ref b58), .val (.ref b61), .val (.ref b61), .val .null, .val (.ref b64)] [(.ref b64)])) rfl (by rw [hml]; rfl) (Steps.refl _) (argsL := []) (rest := []) (lenOf pd_6 rfl) rfl (by show 2 * 0 + _ ≤ _; exact Nat.le_of_eq rfl) (hb hby at_244) (fun _ _ => ⟨rfl, eq82, (by decide : 4 + 0 ≤ _), (by decide : 17 + 0 ≤ _)⟩)
          dsimp only [Pt.U, Pt.locs, Pt.cells, Pt.slots] at X84 l84 y84 z84 st84 hQ84
          subst l84 y84 z84
          obtain ⟨rfl, Nq84, eq84⟩ := hQ84
          refine Goes.run st84 ?_
          have N84 := Fr.app N82 Nq84
          show Goes p e below s _ _ _ (T84.setTop (mkF m 247 #[.val (.long q1), .second, .val (.int p2), .val (.long q3), .second, .val (.long q4), .second, .val (.long q5), .second, .val (.int p6), .val (.int (p2.toInt16.toInt32)), .val (.int j1_0), .val (.int (1 : Int32)), .val (.int j57_0), .val (.ref b58), .val (.ref b61), .val (.ref b61), .val .null, .val (.ref b64)] [(.long q5)]))
          refine Goes.pre (fun t kt => XS.lload X84.here hx rfl (hb hby at_247) rfl kt) ?_
          show Goes p e below s _ _ _ (T84.setTop (mkF m 249 #[.val (.long q1), .second, .val (.int p2), .val (.long q3), .second, .val (.long q4), .second, .val (.long q5), .second, .val (.int p6), .val (.int (p2.toInt16.toInt32)), .val (.int j1_0), .val (.int (1 : Int32)), .val (.int j57_0), .val (.ref b58), .val (.ref b61), .val (.ref b61), .val .null, .val (.ref b64)] [(.long q5), (.long q5)]))
          refine Goes.pre (fun t kt => XS.lcmp X84.here hx rfl (hb hby at_249) rfl kt) ?_
          show Goes p e below s _ _ _ (T84.setTop (mkF m 250 #[.val (.long q1), .second, .val (.int p2), .val (.long q3), .second, .val (.long q4), .second, .val (.long q5), .second, .val (.int p6), .val (.int (p2.toInt16.toInt32)), .val (.int j1_0), .val (.int (1 : Int32)), .val (.int j57_0), .val (.ref b58), .val (.ref b61), .val (.ref b61), .val .null, .val (.ref b64)] [(.int (lcmpW q5 q5))]))
          refine Goes.pre (fun t kt => XS.ifNo X84.here hx rfl (hb hby at_250) rfl (Jvm.Free.XT.i0_ne_f ((lw_eq _ _).mpr rfl)) kt) ?_
          show Goes p e below s _ _ _ (T84.setTop (mkF m 253 #[.val (.long q1), .second, .val (.int p2), .val (.long q3), .second, .val (.long q4), .second, .val (.long q5), .second, .val (.int p6), .val (.int (p2.toInt16.toInt32)), .val (.int j1_0), .val (.int (1 : Int32)), .val (.int j57_0), .val (.ref b58), .val (.ref b61), .val (.ref b61), .val .null, .val (.ref b64)] []))
          refine Goes.pre (fun t kt => XS.aload X84.here hx rfl (hb hby at_253) rfl rfl kt) ?_
          show Goes p e below s _ _ _ (T84.setTop (mkF m 255 #[.val (.long q1), .second, .val (.int p2), .val (.long q3), .second, .val (.long q4), .second, .val (.long q5), .second, .val (.int p6), .val (.int (p2.toInt16.toInt32)), .val (.int j1_0), .val (.int (1 : Int32)), .val (.int j57_0), .val (.ref b58), .val (.ref b61), .val (.ref b61), .val .null, .val (.ref b64)] [(.ref b64)]))
          obtain ⟨cq87, kq87, qa87, qb87, qc87⟩ := isOf hZ eq84 fc73
          obtain ⟨_, _, ⟨T86, L86, k86, n86⟩, -, X86, ⟨Lc86, hQ86, l86, y86, z86⟩, st86⟩ := X84.virtualBack hx (y := (⟨"com/example/seqlint/seqlint/kafka/Transaction", "isReported", "()Z"⟩ : MethodName)) (z := (⟨"com/example/seqlint/seqlint/kafka/Transaction", "isReported", "()Z"⟩ : MethodName)) hown (mvT hZ (hw _ (List.mem_of_getElem? (i := 97) rfl))) (mvT hZ (hw _ (List.mem_of_getElem? (i := 98) rfl))) (notFace_of_selects (args := #[]) (mvT hZ (hw _ (List.mem_of_getElem? (i := 100) rfl)))) (mvT hZ (hw _ (List.mem_of_getElem? (i := 100) rfl))) (mvT hZ (hw _ (List.mem_of_getElem? (i := 99) rfl))) (by decide) (backOf (W := 0) (rm16 l Z a0 hw [] b64 (j1_0 &&& 1) h69 n0 Z69 pq69_6) hZ (hw _ (List.mem_of_getElem? (i := 101) rfl)) (hw _ (List.mem_of_getElem? (i := 32) rfl)) (by decide) (by decide)) qa87 qc87 (g := (mkF m 255 #[.val (.long q1), .second, .val (.int p2), .val (.long q3), .second, .val (.long q4), .second, .val (.long q5), .second, .val (.int p6), .val (.int (p2.toInt16.toInt32)), .val (.int j1_0), .val (.int (1 : Int32)), .val (.int j57_0), .val (.ref b58), .val (.ref b61), .val (.ref b61), .val .null, .val (.ref b64)] [(.ref b64)])) rfl (by rw [hml]; rfl) (Steps.refl _) (argsL := []) (rest := []) (lenOf pd_4 rfl) rfl (by show 2 * 0 + _ ≤ _; exact Nat.le_of_eq rfl) (hb hby at_255) (fun _ _ => ⟨rfl, eq84, (by decide : 4 + 0 ≤ _), (by decide : 17 + 0 ≤ _)⟩)
          dsimp only [Pt.U, Pt.locs, Pt.cells, Pt.slots] at X86 l86 y86 z86 st86 hQ86
          subst l86 y86 z86
          obtain ⟨rfl, Nq86, eq86⟩ := hQ86
          refine Goes.run st86 ?_
          have N86 := Fr.app N84 Nq86
          show Goes p e below s _ _ _ (T86.setTop (mkF m 258 #[.val (.long q1), .second, .val (.int p2), .val (.long q3), .second, .val (.long q4), .second, .val (.long q5), .second, .val (.int p6), .val (.int (p2.toInt16.toInt32)), .val (.int j1_0), .val (.int (1 : Int32)), .val (.int j57_0), .val (.ref b58), .val (.ref b61), .val (.ref b61), .val .null, .val (.ref b64)] [(.int ((j1_0 &&& 1) &&& 1))]))
          refine Goes.pre (fun t kt => XS.iload X86.here hx rfl (hb hby at_258) rfl kt) ?_
          show Goes p e below s _ _ _ (T86.setTop (mkF m 260 #[.val (.long q1), .second, .val (.int p2), .val (.long q3), .second, .val (.long q4), .second, .val (.long q5), .second, .val (.int p6), .val (.int (p2.toInt16.toInt32)), .val (.int j1_0), .val (.int (1 : Int32)), .val (.int j57_0), .val (.ref b58), .val (.ref b61), .val (.ref b61), .val .null, .val (.ref b64)] [(.int j1_0), (.int ((j1_0 &&& 1) &&& 1))]))
          refine Goes.pre (fun t kt => XS.icmpNo X86.here hx rfl (hb hby at_260) rfl (Jvm.Free.XT.ii_ne_f ((own_b1 hb8))) kt) ?_
          show Goes p e below s _ _ _ (T86.setTop (mkF m 263 #[.val (.long q1), .second, .val (.int p2), .val (.long q3), .second, .val (.long q4), .second, .val (.long q5), .second, .val (.int p6), .val (.int (p2.toInt16.toInt32)), .val (.int j1_0), .val (.int (1 : Int32)), .val (.int j57_0), .val (.ref b58), .val (.ref b61), .val (.ref b61), .val .null, .val (.ref b64)] []))
          refine Goes.pre (fun t kt => XS.iconst X86.here hx rfl (hb hby at_263) kt) ?_
          show Goes p e below s _ _ _ (T86.setTop (mkF m 264 #[.val (.long q1), .second, .val (.int p2), .val (.long q3), .second, .val (.long q4), .second, .val (.long q5), .second, .val (.int p6), .val (.int (p2.toInt16.toInt32)), .val (.int j1_0), .val (.int (1 : Int32)), .val (.int j57_0), .val (.ref b58), .val (.ref b61), .val (.ref b61), .val .null, .val (.ref b64)] [(.int (1 : Int32))]))
          refine Goes.pre (fun t kt => XS.goto X86.here hx rfl (pc0 := 264) (pc' := 268) rfl (hb hby at_264) (by decide) (by decide) kt) ?_
          show Goes p e below s _ _ _ (T86.setTop (mkF m 268 #[.val (.long q1), .second, .val (.int p2), .val (.long q3), .second, .val (.long q4), .second, .val (.long q5), .second, .val (.int p6), .val (.int (p2.toInt16.toInt32)), .val (.int j1_0), .val (.int (1 : Int32)), .val (.int j57_0), .val (.ref b58), .val (.ref b61), .val (.ref b61), .val .null, .val (.ref b64)] [(.int (1 : Int32))]))
          refine Goes.ret X86 (some (.int (1 : Int32))) (fun h => by rw [Bd.returns] at h; cases h) (BodyLoose.notSynchronized Bd) (by decide) (by decide) (fun fs hr => retN X86 hx (t := .boolean) Bd.returns (by simp) (hb hby at_268) hr) ?_
          show Q_rm0 Z q1 p2 q3 q4 q5 p6 G1 h0 n0 _ T86.heap _
          rw [eq86]
          exact ⟨rfl, N86⟩
        · refine Goes.pre (fun t kt => XS.ifNo X67.here hx rfl (hb hby at_128) rfl (Jvm.Free.XT.i0_eq_f (hc128)) kt) ?_
          show Goes p e below s _ _ _ (T67.setTop (mkF m 131 #[.val (.long q1), .second, .val (.int p2), .val (.long q3), .second, .val (.long q4), .second, .val (.long q5), .second, .val (.int p6), .val (.int (p2.toInt16.toInt32)), .val (.int j1_0), .val (.int (1 : Int32)), .val (.int j57_0), .val (.ref b58), .val (.ref b61), .val (.ref b61), .val .null, .val (.ref b64)] []))
          refine Goes.pre (fun t kt => XS.aload X67.here hx rfl (hb hby at_131) rfl rfl kt) ?_
          show Goes p e below s _ _ _ (T67.setTop (mkF m 133 #[.val (.long q1), .second, .val (.int p2), .val (.long q3), .second, .val (.long q4), .second, .val (.long q5), .second, .val (.int p6), .val (.int (p2.toInt16.toInt32)), .val (.int j1_0), .val (.int (1 : Int32)), .val (.int j57_0), .val (.ref b58), .val (.ref b61), .val (.ref b61), .val .null, .val (.ref b64)] [(.ref b64)]))
          refine Goes.pre (fun t kt => XS.iloadN X67.here hx rfl (hb hby at_133) rfl kt) ?_
          show Goes p e below s _ _ _ (T67.setTop (mkF m 134 #[.val (.long q1), .second, .val (.int p2), .val (.long q3), .second, .val (.long q4), .second, .val (.long q5), .second, .val (.int p6), .val (.int (p2.toInt16.toInt32)), .val (.int j1_0), .val (.int (1 : Int32)), .val (.int j57_0), .val (.ref b58), .val (.ref b61), .val (.ref b61), .val .null, .val (.ref b64)] [(.int p2), (.ref b64)]))
          refine Goes.pre (fun t kt => XS.iconst X67.here hx rfl (hb hby at_134) kt) ?_
          show Goes p e below s _ _ _ (T67.setTop (mkF m 135 #[.val (.long q1), .second, .val (.int p2), .val (.long q3), .second, .val (.long q4), .second, .val (.long q5), .second, .val (.int p6), .val (.int (p2.toInt16.toInt32)), .val (.int j1_0), .val (.int (1 : Int32)), .val (.int j57_0), .val (.ref b58), .val (.ref b61), .val (.ref b61), .val .null, .val (.ref b64)] [(.int (-1 : Int32)), (.int p2), (.ref b64)]))
          refine Goes.pre (fun t kt => XS.ixor X67.here hx rfl (hb hby at_135) rfl kt) ?_
          show Goes p e below s _ _ _ (T67.setTop (mkF m 136 #[.val (.long q1), .second, .val (.int p2), .val (.long q3), .second, .val (.long q4), .second, .val (.long q5), .second, .val (.int p6), .val (.int (p2.toInt16.toInt32)), .val (.int j1_0), .val (.int (1 : Int32)), .val (.int j57_0), .val (.ref b58), .val (.ref b61), .val (.ref b61), .val .null, .val (.ref b64)] [(.int (p2 ^^^ (-1 : Int32))), (.ref b64)]))
          refine Goes.pre (fun t kt => XS.i2s X67.here hx rfl (hb hby at_136) rfl kt) ?_
          show Goes p e below s _ _ _ (T67.setTop (mkF m 137 #[.val (.long q1), .second, .val (.int p2), .val (.long q3), .second, .val (.long q4), .second, .val (.long q5), .second, .val (.int p6), .val (.int (p2.toInt16.toInt32)), .val (.int j1_0), .val (.int (1 : Int32)), .val (.int j57_0), .val (.ref b58), .val (.ref b61), .val (.ref b61), .val .null, .val (.ref b64)] [(.int ((p2 ^^^ (-1 : Int32)).toInt16.toInt32)), (.ref b64)]))
          refine Goes.pre (fun t kt => XS.lloadN X67.here hx rfl (hb hby at_137) rfl kt) ?_
          show Goes p e below s _ _ _ (T67.setTop (mkF m 138 #[.val (.long q1), .second, .val (.int p2), .val (.long q3), .second, .val (.long q4), .second, .val (.long q5), .second, .val (.int p6), .val (.int (p2.toInt16.toInt32)), .val (.int j1_0), .val (.int (1 : Int32)), .val (.int j57_0), .val (.ref b58), .val (.ref b61), .val (.ref b61), .val .null, .val (.ref b64)] [(.long q3), (.int ((p2 ^^^ (-1 : Int32)).toInt16.toInt32)), (.ref b64)]))
          refine Goes.pre (X67.ldc2Long hx hown (mvT hZ (hw _ (List.mem_of_getElem? (i := 102) rfl))) (g := (mkF m 138 #[.val (.long q1), .second, .val (.int p2), .val (.long q3), .second, .val (.long q4), .second, .val (.long q5), .second, .val (.int p6), .val (.int (p2.toInt16.toInt32)), .val (.int j1_0), .val (.int (1 : Int32)), .val (.int j57_0), .val (.ref b58), .val (.ref b61), .val (.ref b61), .val .null, .val (.ref b64)] [(.long q3), (.int ((p2 ^^^ (-1 : Int32)).toInt16.toInt32)), (.ref b64)])) rfl (hb hby at_138)) ?_
          show Goes p e below s _ _ _ (T67.setTop (mkF m 141 #[.val (.long q1), .second, .val (.int p2), .val (.long q3), .second, .val (.long q4), .second, .val (.long q5), .second, .val (.int p6), .val (.int (p2.toInt16.toInt32)), .val (.int j1_0), .val (.int (1 : Int32)), .val (.int j57_0), .val (.ref b58), .val (.ref b61), .val (.ref b61), .val .null, .val (.ref b64)] [(.long (-1 : Int64)), (.long q3), (.int ((p2 ^^^ (-1 : Int32)).toInt16.toInt32)), (.ref b64)]))
          refine Goes.pre (fun t kt => XS.lxor X67.here hx rfl (hb hby at_141) rfl kt) ?_
          show Goes p e below s _ _ _ (T67.setTop (mkF m 142 #[.val (.long q1), .second, .val (.int p2), .val (.long q3), .second, .val (.long q4), .second, .val (.long q5), .second, .val (.int p6), .val (.int (p2.toInt16.toInt32)), .val (.int j1_0), .val (.int (1 : Int32)), .val (.int j57_0), .val (.ref b58), .val (.ref b61), .val (.ref b61), .val .null, .val (.ref b64)] [(.long (q3 ^^^ (-1 : Int64))), (.int ((p2 ^^^ (-1 : Int32)).toInt16.toInt32)), (.ref b64)]))
          refine Goes.pre (fun t kt => XS.lload X67.here hx rfl (hb hby at_142) rfl kt) ?_
          show Goes p e below s _ _ _ (T67.setTop (mkF m 144 #[.val (.long q1), .second, .val (.int p2), .val (.long q3), .second, .val (.long q4), .second, .val (.long q5), .second, .val (.int p6), .val (.int (p2.toInt16.toInt32)), .val (.int j1_0), .val (.int (1 : Int32)), .val (.int j57_0), .val (.ref b58), .val (.ref b61), .val (.ref b61), .val .null, .val (.ref b64)] [(.long q4), (.long (q3 ^^^ (-1 : Int64))), (.int ((p2 ^^^ (-1 : Int32)).toInt16.toInt32)), (.ref b64)]))
          refine Goes.pre (X67.ldc2Long hx hown (mvT hZ (hw _ (List.mem_of_getElem? (i := 102) rfl))) (g := (mkF m 144 #[.val (.long q1), .second, .val (.int p2), .val (.long q3), .second, .val (.long q4), .second, .val (.long q5), .second, .val (.int p6), .val (.int (p2.toInt16.toInt32)), .val (.int j1_0), .val (.int (1 : Int32)), .val (.int j57_0), .val (.ref b58), .val (.ref b61), .val (.ref b61), .val .null, .val (.ref b64)] [(.long q4), (.long (q3 ^^^ (-1 : Int64))), (.int ((p2 ^^^ (-1 : Int32)).toInt16.toInt32)), (.ref b64)])) rfl (hb hby at_144)) ?_
          show Goes p e below s _ _ _ (T67.setTop (mkF m 147 #[.val (.long q1), .second, .val (.int p2), .val (.long q3), .second, .val (.long q4), .second, .val (.long q5), .second, .val (.int p6), .val (.int (p2.toInt16.toInt32)), .val (.int j1_0), .val (.int (1 : Int32)), .val (.int j57_0), .val (.ref b58), .val (.ref b61), .val (.ref b61), .val .null, .val (.ref b64)] [(.long (-1 : Int64)), (.long q4), (.long (q3 ^^^ (-1 : Int64))), (.int ((p2 ^^^ (-1 : Int32)).toInt16.toInt32)), (.ref b64)]))
          refine Goes.pre (fun t kt => XS.lxor X67.here hx rfl (hb hby at_147) rfl kt) ?_
          show Goes p e below s _ _ _ (T67.setTop (mkF m 148 #[.val (.long q1), .second, .val (.int p2), .val (.long q3), .second, .val (.long q4), .second, .val (.long q5), .second, .val (.int p6), .val (.int (p2.toInt16.toInt32)), .val (.int j1_0), .val (.int (1 : Int32)), .val (.int j57_0), .val (.ref b58), .val (.ref b61), .val (.ref b61), .val .null, .val (.ref b64)] [(.long (q4 ^^^ (-1 : Int64))), (.long (q3 ^^^ (-1 : Int64))), (.int ((p2 ^^^ (-1 : Int32)).toInt16.toInt32)), (.ref b64)]))
          refine Goes.pre (fun t kt => XS.aload X67.here hx rfl (hb hby at_148) rfl rfl kt) ?_
          show Goes p e below s _ _ _ (T67.setTop (mkF m 150 #[.val (.long q1), .second, .val (.int p2), .val (.long q3), .second, .val (.long q4), .second, .val (.long q5), .second, .val (.int p6), .val (.int (p2.toInt16.toInt32)), .val (.int j1_0), .val (.int (1 : Int32)), .val (.int j57_0), .val (.ref b58), .val (.ref b61), .val (.ref b61), .val .null, .val (.ref b64)] [.null, (.long (q4 ^^^ (-1 : Int64))), (.long (q3 ^^^ (-1 : Int64))), (.int ((p2 ^^^ (-1 : Int32)).toInt16.toInt32)), (.ref b64)]))
          refine Goes.pre (fun t kt => XS.lload X67.here hx rfl (hb hby at_150) rfl kt) ?_
          show Goes p e below s _ _ _ (T67.setTop (mkF m 152 #[.val (.long q1), .second, .val (.int p2), .val (.long q3), .second, .val (.long q4), .second, .val (.long q5), .second, .val (.int p6), .val (.int (p2.toInt16.toInt32)), .val (.int j1_0), .val (.int (1 : Int32)), .val (.int j57_0), .val (.ref b58), .val (.ref b61), .val (.ref b61), .val .null, .val (.ref b64)] [(.long q5), .null, (.long (q4 ^^^ (-1 : Int64))), (.long (q3 ^^^ (-1 : Int64))), (.int ((p2 ^^^ (-1 : Int32)).toInt16.toInt32)), (.ref b64)]))
          refine Goes.pre (X67.ldc2Long hx hown (mvT hZ (hw _ (List.mem_of_getElem? (i := 102) rfl))) (g := (mkF m 152 #[.val (.long q1), .second, .val (.int p2), .val (.long q3), .second, .val (.long q4), .second, .val (.long q5), .second, .val (.int p6), .val (.int (p2.toInt16.toInt32)), .val (.int j1_0), .val (.int (1 : Int32)), .val (.int j57_0), .val (.ref b58), .val (.ref b61), .val (.ref b61), .val .null, .val (.ref b64)] [(.long q5), .null, (.long (q4 ^^^ (-1 : Int64))), (.long (q3 ^^^ (-1 : Int64))), (.int ((p2 ^^^ (-1 : Int32)).toInt16.toInt32)), (.ref b64)])) rfl (hb hby at_152)) ?_
          show Goes p e below s _ _ _ (T67.setTop (mkF m 155 #[.val (.long q1), .second, .val (.int p2), .val (.long q3), .second, .val (.long q4), .second, .val (.long q5), .second, .val (.int p6), .val (.int (p2.toInt16.toInt32)), .val (.int j1_0), .val (.int (1 : Int32)), .val (.int j57_0), .val (.ref b58), .val (.ref b61), .val (.ref b61), .val .null, .val (.ref b64)] [(.long (-1 : Int64)), (.long q5), .null, (.long (q4 ^^^ (-1 : Int64))), (.long (q3 ^^^ (-1 : Int64))), (.int ((p2 ^^^ (-1 : Int32)).toInt16.toInt32)), (.ref b64)]))
          refine Goes.pre (fun t kt => XS.lxor X67.here hx rfl (hb hby at_155) rfl kt) ?_
          show Goes p e below s _ _ _ (T67.setTop (mkF m 156 #[.val (.long q1), .second, .val (.int p2), .val (.long q3), .second, .val (.long q4), .second, .val (.long q5), .second, .val (.int p6), .val (.int (p2.toInt16.toInt32)), .val (.int j1_0), .val (.int (1 : Int32)), .val (.int j57_0), .val (.ref b58), .val (.ref b61), .val (.ref b61), .val .null, .val (.ref b64)] [(.long (q5 ^^^ (-1 : Int64))), .null, (.long (q4 ^^^ (-1 : Int64))), (.long (q3 ^^^ (-1 : Int64))), (.int ((p2 ^^^ (-1 : Int32)).toInt16.toInt32)), (.ref b64)]))
          refine Goes.pre (fun t kt => XS.iload X67.here hx rfl (hb hby at_156) rfl kt) ?_
          show Goes p e below s _ _ _ (T67.setTop (mkF m 158 #[.val (.long q1), .second, .val (.int p2), .val (.long q3), .second, .val (.long q4), .second, .val (.long q5), .second, .val (.int p6), .val (.int (p2.toInt16.toInt32)), .val (.int j1_0), .val (.int (1 : Int32)), .val (.int j57_0), .val (.ref b58), .val (.ref b61), .val (.ref b61), .val .null, .val (.ref b64)] [(.int j1_0), (.long (q5 ^^^ (-1 : Int64))), .null, (.long (q4 ^^^ (-1 : Int64))), (.long (q3 ^^^ (-1 : Int64))), (.int ((p2 ^^^ (-1 : Int32)).toInt16.toInt32)), (.ref b64)]))
          have J88 : ∀ (j88_0 : Int32), Goes p e below s (Q_rm0 Z q1 p2 q3 q4 q5 p6 G1 h0 n0) room_1.cells room_1.slots (T67.setTop (mkF m 166 #[.val (.long q1), .second, .val (.int p2), .val (.long q3), .second, .val (.long q4), .second, .val (.long q5), .second, .val (.int p6), .val (.int (p2.toInt16.toInt32)), .val (.int j1_0), .val (.int (1 : Int32)), .val (.int j57_0), .val (.ref b58), .val (.ref b61), .val (.ref b61), .val .null, .val (.ref b64)] [(.int j88_0), (.long (q5 ^^^ (-1 : Int64))), .null, (.long (q4 ^^^ (-1 : Int64))), (.long (q3 ^^^ (-1 : Int64))), (.int ((p2 ^^^ (-1 : Int32)).toInt16.toInt32)), (.ref b64)])) := by
            intro j88_0
            have fc89 : Exa Z h67 b64 "com/example/seqlint/seqlint/kafka/Transaction" := (A64.keep Kq67)
            obtain ⟨cq91, kq91, qa91, qb91, qc91⟩ := isOf hZ e67 fc89
            obtain ⟨_, _, ⟨T90, L90, k90, n90⟩, -, X90, ⟨Lc90, hQ90, l90, y90, z90⟩, st90⟩ := X67.virtualBack hx (y := (⟨"com/example/seqlint/seqlint/kafka/Transaction", "open", "(SJJLjava/lang/String;JZ)V"⟩ : MethodName)) (z := (⟨"com/example/seqlint/seqlint/kafka/Transaction", "open", "(SJJLjava/lang/String;JZ)V"⟩ : MethodName)) hown (mvT hZ (hw _ (List.mem_of_getElem? (i := 45) rfl))) (mvT hZ (hw _ (List.mem_of_getElem? (i := 46) rfl))) (notFace_of_selects (args := #[]) (mvT hZ (hw _ (List.mem_of_getElem? (i := 48) rfl)))) (mvT hZ (hw _ (List.mem_of_getElem? (i := 48) rfl))) (mvT hZ (hw _ (List.mem_of_getElem? (i := 47) rfl))) (by decide) (backOf (W := 0) (rm8n l Z a0 hw [] b64 ((p2 ^^^ (-1 : Int32)).toInt16.toInt32) (q3 ^^^ (-1 : Int64)) (q4 ^^^ (-1 : Int64)) (q5 ^^^ (-1 : Int64)) j88_0 (.int (0 : Int32)) (.int (-2147483648 : Int32)) (.long (0 : Int64)) (.long (0 : Int64)) .null (.long (0 : Int64)) (.int (0 : Int32)) h67 n0 Z67 fc89 gg64 pq67_1 pq67_0 pq67_2 pq67_3 pq67_4 pq67_5 pq67_6) hZ (hw _ (List.mem_of_getElem? (i := 49) rfl)) (hw _ (List.mem_of_getElem? (i := 32) rfl)) (by decide) (by decide)) qa91 qc91 (g := (mkF m 166 #[.val (.long q1), .second, .val (.int p2), .val (.long q3), .second, .val (.long q4), .second, .val (.long q5), .second, .val (.int p6), .val (.int (p2.toInt16.toInt32)), .val (.int j1_0), .val (.int (1 : Int32)), .val (.int j57_0), .val (.ref b58), .val (.ref b61), .val (.ref b61), .val .null, .val (.ref b64)] [(.int j88_0), (.long (q5 ^^^ (-1 : Int64))), .null, (.long (q4 ^^^ (-1 : Int64))), (.long (q3 ^^^ (-1 : Int64))), (.int ((p2 ^^^ (-1 : Int32)).toInt16.toInt32)), (.ref b64)])) rfl (by rw [hml]; rfl) (Steps.refl _) (argsL := [(.int ((p2 ^^^ (-1 : Int32)).toInt16.toInt32)), (.long (q3 ^^^ (-1 : Int64))), (.long (q4 ^^^ (-1 : Int64))), .null, (.long (q5 ^^^ (-1 : Int64))), (.int j88_0)]) (rest := []) (lenOf pd_3 rfl) rfl (by show 2 * 0 + _ ≤ _; exact Nat.le_of_eq rfl) (hb hby at_166) (fun _ _ => ⟨rfl, e67, (by decide : 4 + 0 ≤ _), (by decide : 17 + 0 ≤ _)⟩)
            dsimp only [Pt.U, Pt.locs, Pt.cells, Pt.slots] at X90 l90 y90 z90 st90 hQ90
            subst l90 y90 z90
            obtain ⟨rfl, Nq90, Kq90, pq90_0, pq90_1, pq90_2, pq90_3, pq90_4, pq90_5, pq90_6⟩ := hQ90
            refine Goes.run st90 ?_
            have N90 := Fr.app N67 Nq90
            obtain ⟨h90, e90⟩ : ∃ z, T90.heap = z := ⟨_, rfl⟩
            rw [e90] at Kq90 pq90_0 pq90_1 pq90_2 pq90_3 pq90_4 pq90_5 pq90_6
            have Z90 : n0 ≤ h90.size := Nat.le_trans Z67 Kq90.1
            have Od90 := Od67.keep Kq90 (allS gg64 all0)
            show Goes p e below s _ _ _ (T90.setTop (mkF m 169 #[.val (.long q1), .second, .val (.int p2), .val (.long q3), .second, .val (.long q4), .second, .val (.long q5), .second, .val (.int p6), .val (.int (p2.toInt16.toInt32)), .val (.int j1_0), .val (.int (1 : Int32)), .val (.int j57_0), .val (.ref b58), .val (.ref b61), .val (.ref b61), .val .null, .val (.ref b64)] []))
            refine Goes.pre (fun t kt => XS.aload X90.here hx rfl (hb hby at_169) rfl rfl kt) ?_
            show Goes p e below s _ _ _ (T90.setTop (mkF m 171 #[.val (.long q1), .second, .val (.int p2), .val (.long q3), .second, .val (.long q4), .second, .val (.long q5), .second, .val (.int p6), .val (.int (p2.toInt16.toInt32)), .val (.int j1_0), .val (.int (1 : Int32)), .val (.int j57_0), .val (.ref b58), .val (.ref b61), .val (.ref b61), .val .null, .val (.ref b64)] [(.ref b64)]))
            refine Goes.pre (fun t kt => XS.iload X90.here hx rfl (hb hby at_171) rfl kt) ?_
            show Goes p e below s _ _ _ (T90.setTop (mkF m 173 #[.val (.long q1), .second, .val (.int p2), .val (.long q3), .second, .val (.long q4), .second, .val (.long q5), .second, .val (.int p6), .val (.int (p2.toInt16.toInt32)), .val (.int j1_0), .val (.int (1 : Int32)), .val (.int j57_0), .val (.ref b58), .val (.ref b61), .val (.ref b61), .val .null, .val (.ref b64)] [(.int (p2.toInt16.toInt32)), (.ref b64)]))
            refine Goes.pre (fun t kt => XS.lloadN X90.here hx rfl (hb hby at_173) rfl kt) ?_
            show Goes p e below s _ _ _ (T90.setTop (mkF m 174 #[.val (.long q1), .second, .val (.int p2), .val (.long q3), .second, .val (.long q4), .second, .val (.long q5), .second, .val (.int p6), .val (.int (p2.toInt16.toInt32)), .val (.int j1_0), .val (.int (1 : Int32)), .val (.int j57_0), .val (.ref b58), .val (.ref b61), .val (.ref b61), .val .null, .val (.ref b64)] [(.long q3), (.int (p2.toInt16.toInt32)), (.ref b64)]))
            refine Goes.pre (fun t kt => XS.lload X90.here hx rfl (hb hby at_174) rfl kt) ?_
            show Goes p e below s _ _ _ (T90.setTop (mkF m 176 #[.val (.long q1), .second, .val (.int p2), .val (.long q3), .second, .val (.long q4), .second, .val (.long q5), .second, .val (.int p6), .val (.int (p2.toInt16.toInt32)), .val (.int j1_0), .val (.int (1 : Int32)), .val (.int j57_0), .val (.ref b58), .val (.ref b61), .val (.ref b61), .val .null, .val (.ref b64)] [(.long q4), (.long q3), (.int (p2.toInt16.toInt32)), (.ref b64)]))
            refine Goes.pre (fun t kt => XS.aload X90.here hx rfl (hb hby at_176) rfl rfl kt) ?_
            show Goes p e below s _ _ _ (T90.setTop (mkF m 178 #[.val (.long q1), .second, .val (.int p2), .val (.long q3), .second, .val (.long q4), .second, .val (.long q5), .second, .val (.int p6), .val (.int (p2.toInt16.toInt32)), .val (.int j1_0), .val (.int (1 : Int32)), .val (.int j57_0), .val (.ref b58), .val (.ref b61), .val (.ref b61), .val .null, .val (.ref b64)] [(.ref b61), (.long q4), (.long q3), (.int (p2.toInt16.toInt32)), (.ref b64)]))
            refine Goes.pre (fun t kt => XS.lload X90.here hx rfl (hb hby at_178) rfl kt) ?_
            show Goes p e below s _ _ _ (T90.setTop (mkF m 180 #[.val (.long q1), .second, .val (.int p2), .val (.long q3), .second, .val (.long q4), .second, .val (.long q5), .second, .val (.int p6), .val (.int (p2.toInt16.toInt32)), .val (.int j1_0), .val (.int (1 : Int32)), .val (.int j57_0), .val (.ref b58), .val (.ref b61), .val (.ref b61), .val .null, .val (.ref b64)] [(.long q5), (.ref b61), (.long q4), (.long q3), (.int (p2.toInt16.toInt32)), (.ref b64)]))
            refine Goes.pre (fun t kt => XS.iload X90.here hx rfl (hb hby at_180) rfl kt) ?_
            show Goes p e below s _ _ _ (T90.setTop (mkF m 182 #[.val (.long q1), .second, .val (.int p2), .val (.long q3), .second, .val (.long q4), .second, .val (.long q5), .second, .val (.int p6), .val (.int (p2.toInt16.toInt32)), .val (.int j1_0), .val (.int (1 : Int32)), .val (.int j57_0), .val (.ref b58), .val (.ref b61), .val (.ref b61), .val .null, .val (.ref b64)] [(.int j1_0), (.long q5), (.ref b61), (.long q4), (.long q3), (.int (p2.toInt16.toInt32)), (.ref b64)]))
            have fc92 : Exa Z h90 b64 "com/example/seqlint/seqlint/kafka/Transaction" := (fc89.keep Kq90)
            obtain ⟨cq94, kq94, qa94, qb94, qc94⟩ := isOf hZ e90 fc92
            obtain ⟨_, _, ⟨T93, L93, k93, n93⟩, -, X93, ⟨Lc93, hQ93, l93, y93, z93⟩, st93⟩ := X90.virtualBack hx (y := (⟨"com/example/seqlint/seqlint/kafka/Transaction", "open", "(SJJLjava/lang/String;JZ)V"⟩ : MethodName)) (z := (⟨"com/example/seqlint/seqlint/kafka/Transaction", "open", "(SJJLjava/lang/String;JZ)V"⟩ : MethodName)) hown (mvT hZ (hw _ (List.mem_of_getElem? (i := 45) rfl))) (mvT hZ (hw _ (List.mem_of_getElem? (i := 46) rfl))) (notFace_of_selects (args := #[]) (mvT hZ (hw _ (List.mem_of_getElem? (i := 48) rfl)))) (mvT hZ (hw _ (List.mem_of_getElem? (i := 48) rfl))) (mvT hZ (hw _ (List.mem_of_getElem? (i := 47) rfl))) (by decide) (backOf (W := 0) (rm8r l Z a0 hw [] b64 (p2.toInt16.toInt32) q3 q4 b61 q5 j1_0 (.int (1 : Int32)) (.int ((p2 ^^^ (-1 : Int32)).toInt16.toInt32)) (.long (q3 ^^^ (-1 : Int64))) (.long (q4 ^^^ (-1 : Int64))) .null (.long (q5 ^^^ (-1 : Int64))) (.int (j88_0 &&& 1)) h90 n0 Z90 fc92 gg64 pq90_0 pq90_1 pq90_2 pq90_3 pq90_4 pq90_5 pq90_6) hZ (hw _ (List.mem_of_getElem? (i := 49) rfl)) (hw _ (List.mem_of_getElem? (i := 32) rfl)) (by decide) (by decide)) qa94 qc94 (g := (mkF m 182 #[.val (.long q1), .second, .val (.int p2), .val (.long q3), .second, .val (.long q4), .second, .val (.long q5), .second, .val (.int p6), .val (.int (p2.toInt16.toInt32)), .val (.int j1_0), .val (.int (1 : Int32)), .val (.int j57_0), .val (.ref b58), .val (.ref b61), .val (.ref b61), .val .null, .val (.ref b64)] [(.int j1_0), (.long q5), (.ref b61), (.long q4), (.long q3), (.int (p2.toInt16.toInt32)), (.ref b64)])) rfl (by rw [hml]; rfl) (Steps.refl _) (argsL := [(.int (p2.toInt16.toInt32)), (.long q3), (.long q4), (.ref b61), (.long q5), (.int j1_0)]) (rest := []) (lenOf pd_3 rfl) rfl (by show 2 * 0 + _ ≤ _; exact Nat.le_of_eq rfl) (hb hby at_182) (fun _ _ => ⟨rfl, e90, (by decide : 4 + 0 ≤ _), (by decide : 17 + 0 ≤ _)⟩)
            dsimp only [Pt.U, Pt.locs, Pt.cells, Pt.slots] at X93 l93 y93 z93 st93 hQ93
            subst l93 y93 z93
            obtain ⟨rfl, Nq93, Kq93, pq93_0, pq93_1, pq93_2, pq93_3, pq93_4, pq93_5, pq93_6⟩ := hQ93
            refine Goes.run st93 ?_
            have N93 := Fr.app N90 Nq93
            obtain ⟨h93, e93⟩ : ∃ z, T93.heap = z := ⟨_, rfl⟩
            rw [e93] at Kq93 pq93_0 pq93_1 pq93_2 pq93_3 pq93_4 pq93_5 pq93_6
            have Z93 : n0 ≤ h93.size := Nat.le_trans Z90 Kq93.1
            have Od93 := Od90.keep Kq93 (allS gg64 all0)
            show Goes p e below s _ _ _ (T93.setTop (mkF m 185 #[.val (.long q1), .second, .val (.int p2), .val (.long q3), .second, .val (.long q4), .second, .val (.long q5), .second, .val (.int p6), .val (.int (p2.toInt16.toInt32)), .val (.int j1_0), .val (.int (1 : Int32)), .val (.int j57_0), .val (.ref b58), .val (.ref b61), .val (.ref b61), .val .null, .val (.ref b64)] []))
            refine Goes.pre (fun t kt => XS.aload X93.here hx rfl (hb hby at_185) rfl rfl kt) ?_
            show Goes p e below s _ _ _ (T93.setTop (mkF m 187 #[.val (.long q1), .second, .val (.int p2), .val (.long q3), .second, .val (.long q4), .second, .val (.long q5), .second, .val (.int p6), .val (.int (p2.toInt16.toInt32)), .val (.int j1_0), .val (.int (1 : Int32)), .val (.int j57_0), .val (.ref b58), .val (.ref b61), .val (.ref b61), .val .null, .val (.ref b64)] [(.ref b64)]))
            have fc97 : Exa Z h93 b64 "com/example/seqlint/seqlint/kafka/Transaction" := (fc92.keep Kq93)
            obtain ⟨cq96, kq96, qa96, qb96, qc96⟩ := isOf hZ e93 fc97
            obtain ⟨_, _, ⟨T95, L95, k95, n95⟩, -, X95, ⟨Lc95, hQ95, l95, y95, z95⟩, st95⟩ := X93.virtualBack hx (y := (⟨"com/example/seqlint/seqlint/kafka/Transaction", "isOpen", "()Z"⟩ : MethodName)) (z := (⟨"com/example/seqlint/seqlint/kafka/Transaction", "isOpen", "()Z"⟩ : MethodName)) hown (mvT hZ (hw _ (List.mem_of_getElem? (i := 62) rfl))) (mvT hZ (hw _ (List.mem_of_getElem? (i := 63) rfl))) (notFace_of_selects (args := #[]) (mvT hZ (hw _ (List.mem_of_getElem? (i := 65) rfl)))) (mvT hZ (hw _ (List.mem_of_getElem? (i := 65) rfl))) (mvT hZ (hw _ (List.mem_of_getElem? (i := 64) rfl))) (by decide) (backOf (W := 0) (rm9 l Z a0 hw [] b64 h93 n0 Z93 pq93_0) hZ (hw _ (List.mem_of_getElem? (i := 66) rfl)) (hw _ (List.mem_of_getElem? (i := 32) rfl)) (by decide) (by decide)) qa96 qc96 (g := (mkF m 187 #[.val (.long q1), .second, .val (.int p2), .val (.long q3), .second, .val (.long q4), .second, .val (.long q5), .second, .val (.int p6), .val (.int (p2.toInt16.toInt32)), .val (.int j1_0), .val (.int (1 : Int32)), .val (.int j57_0), .val (.ref b58), .val (.ref b61), .val (.ref b61), .val .null, .val (.ref b64)] [(.ref b64)])) rfl (by rw [hml]; rfl) (Steps.refl _) (argsL := []) (rest := []) (lenOf pd_4 rfl) rfl (by show 2 * 0 + _ ≤ _; exact Nat.le_of_eq rfl) (hb hby at_187) (fun _ _ => ⟨rfl, e93, (by decide : 4 + 0 ≤ _), (by decide : 17 + 0 ≤ _)⟩)
            dsimp only [Pt.U, Pt.locs, Pt.cells, Pt.slots] at X95 l95 y95 z95 st95 hQ95
            subst l95 y95 z95
            obtain ⟨rfl, Nq95, eq95⟩ := hQ95
            refine Goes.run st95 ?_
            have N95 := Fr.app N93 Nq95
            show Goes p e below s _ _ _ (T95.setTop (mkF m 190 #[.val (.long q1), .second, .val (.int p2), .val (.long q3), .second, .val (.long q4), .second, .val (.long q5), .second, .val (.int p6), .val (.int (p2.toInt16.toInt32)), .val (.int j1_0), .val (.int (1 : Int32)), .val (.int j57_0), .val (.ref b58), .val (.ref b61), .val (.ref b61), .val .null, .val (.ref b64)] [(.int (1 : Int32))]))
            refine Goes.pre (fun t kt => XS.ifNo X95.here hx rfl (hb hby at_190) rfl (Jvm.Free.XT.i0_eq_f ((by decide))) kt) ?_
            show Goes p e below s _ _ _ (T95.setTop (mkF m 193 #[.val (.long q1), .second, .val (.int p2), .val (.long q3), .second, .val (.long q4), .second, .val (.long q5), .second, .val (.int p6), .val (.int (p2.toInt16.toInt32)), .val (.int j1_0), .val (.int (1 : Int32)), .val (.int j57_0), .val (.ref b58), .val (.ref b61), .val (.ref b61), .val .null, .val (.ref b64)] []))
            refine Goes.pre (fun t kt => XS.aload X95.here hx rfl (hb hby at_193) rfl rfl kt) ?_
            show Goes p e below s _ _ _ (T95.setTop (mkF m 195 #[.val (.long q1), .second, .val (.int p2), .val (.long q3), .second, .val (.long q4), .second, .val (.long q5), .second, .val (.int p6), .val (.int (p2.toInt16.toInt32)), .val (.int j1_0), .val (.int (1 : Int32)), .val (.int j57_0), .val (.ref b58), .val (.ref b61), .val (.ref b61), .val .null, .val (.ref b64)] [(.ref b64)]))
            obtain ⟨cq99, kq99, qa99, qb99, qc99⟩ := isOf hZ eq95 fc97
            obtain ⟨_, _, ⟨T98, L98, k98, n98⟩, -, X98, ⟨Lc98, hQ98, l98, y98, z98⟩, st98⟩ := X95.virtualBack hx (y := (⟨"com/example/seqlint/seqlint/kafka/Transaction", "epoch", "()S"⟩ : MethodName)) (z := (⟨"com/example/seqlint/seqlint/kafka/Transaction", "epoch", "()S"⟩ : MethodName)) hown (mvT hZ (hw _ (List.mem_of_getElem? (i := 67) rfl))) (mvT hZ (hw _ (List.mem_of_getElem? (i := 68) rfl))) (notFace_of_selects (args := #[]) (mvT hZ (hw _ (List.mem_of_getElem? (i := 70) rfl)))) (mvT hZ (hw _ (List.mem_of_getElem? (i := 70) rfl))) (mvT hZ (hw _ (List.mem_of_getElem? (i := 69) rfl))) (by decide) (backOf (W := 0) (rm10 l Z a0 hw [] b64 (p2.toInt16.toInt32) h93 n0 Z93 pq93_1) hZ (hw _ (List.mem_of_getElem? (i := 71) rfl)) (hw _ (List.mem_of_getElem? (i := 32) rfl)) (by decide) (by decide)) qa99 qc99 (g := (mkF m 195 #[.val (.long q1), .second, .val (.int p2), .val (.long q3), .second, .val (.long q4), .second, .val (.long q5), .second, .val (.int p6), .val (.int (p2.toInt16.toInt32)), .val (.int j1_0), .val (.int (1 : Int32)), .val (.int j57_0), .val (.ref b58), .val (.ref b61), .val (.ref b61), .val .null, .val (.ref b64)] [(.ref b64)])) rfl (by rw [hml]; rfl) (Steps.refl _) (argsL := []) (rest := []) (lenOf pd_5 rfl) rfl (by show 2 * 0 + _ ≤ _; exact Nat.le_of_eq rfl) (hb hby at_195) (fun _ _ => ⟨rfl, eq95, (by decide : 4 + 0 ≤ _), (by decide : 17 + 0 ≤ _)⟩)
            dsimp only [Pt.U, Pt.locs, Pt.cells, Pt.slots] at X98 l98 y98 z98 st98 hQ98
            subst l98 y98 z98
            obtain ⟨rfl, Nq98, eq98⟩ := hQ98
            refine Goes.run st98 ?_
            have N98 := Fr.app N95 Nq98
            show Goes p e below s _ _ _ (T98.setTop (mkF m 198 #[.val (.long q1), .second, .val (.int p2), .val (.long q3), .second, .val (.long q4), .second, .val (.long q5), .second, .val (.int p6), .val (.int (p2.toInt16.toInt32)), .val (.int j1_0), .val (.int (1 : Int32)), .val (.int j57_0), .val (.ref b58), .val (.ref b61), .val (.ref b61), .val .null, .val (.ref b64)] [(.int (((p2.toInt16.toInt32).toInt16.toInt32).toInt16.toInt32))]))
            refine Goes.pre (fun t kt => XS.iload X98.here hx rfl (hb hby at_198) rfl kt) ?_
            show Goes p e below s _ _ _ (T98.setTop (mkF m 200 #[.val (.long q1), .second, .val (.int p2), .val (.long q3), .second, .val (.long q4), .second, .val (.long q5), .second, .val (.int p6), .val (.int (p2.toInt16.toInt32)), .val (.int j1_0), .val (.int (1 : Int32)), .val (.int j57_0), .val (.ref b58), .val (.ref b61), .val (.ref b61), .val .null, .val (.ref b64)] [(.int (p2.toInt16.toInt32)), (.int (((p2.toInt16.toInt32).toInt16.toInt32).toInt16.toInt32))]))
            refine Goes.pre (fun t kt => XS.icmpNo X98.here hx rfl (hb hby at_200) rfl (Jvm.Free.XT.ii_ne_f ((own_short _))) kt) ?_
            show Goes p e below s _ _ _ (T98.setTop (mkF m 203 #[.val (.long q1), .second, .val (.int p2), .val (.long q3), .second, .val (.long q4), .second, .val (.long q5), .second, .val (.int p6), .val (.int (p2.toInt16.toInt32)), .val (.int j1_0), .val (.int (1 : Int32)), .val (.int j57_0), .val (.ref b58), .val (.ref b61), .val (.ref b61), .val .null, .val (.ref b64)] []))
            refine Goes.pre (fun t kt => XS.aload X98.here hx rfl (hb hby at_203) rfl rfl kt) ?_
            show Goes p e below s _ _ _ (T98.setTop (mkF m 205 #[.val (.long q1), .second, .val (.int p2), .val (.long q3), .second, .val (.long q4), .second, .val (.long q5), .second, .val (.int p6), .val (.int (p2.toInt16.toInt32)), .val (.int j1_0), .val (.int (1 : Int32)), .val (.int j57_0), .val (.ref b58), .val (.ref b61), .val (.ref b61), .val .null, .val (.ref b64)] [(.ref b64)]))
            obtain ⟨cq101, kq101, qa101, qb101, qc101⟩ := isOf hZ eq98 fc97
            obtain ⟨_, _, ⟨T100, L100, k100, n100⟩, -, X100, ⟨Lc100, hQ100, l100, y100, z100⟩, st100⟩ := X98.virtualBack hx (y := (⟨"com/example/seqlint/seqlint/kafka/Transaction", "hasEpoch", "()Z"⟩ : MethodName)) (z := (⟨"com/example/seqlint/seqlint/kafka/Transaction", "hasEpoch", "()Z"⟩ : MethodName)) hown (mvT hZ (hw _ (List.mem_of_getElem? (i := 72) rfl))) (mvT hZ (hw _ (List.mem_of_getElem? (i := 73) rfl))) (notFace_of_selects (args := #[]) (mvT hZ (hw _ (List.mem_of_getElem? (i := 75) rfl)))) (mvT hZ (hw _ (List.mem_of_getElem? (i := 75) rfl))) (mvT hZ (hw _ (List.mem_of_getElem? (i := 74) rfl))) (by decide) (backOf (W := 0) (rm11 l Z a0 hw [] b64 (p2.toInt16.toInt32) h93 n0 Z93 pq93_1 (own_noMin _)) hZ (hw _ (List.mem_of_getElem? (i := 76) rfl)) (hw _ (List.mem_of_getElem? (i := 32) rfl)) (by decide) (by decide)) qa101 qc101 (g := (mkF m 205 #[.val (.long q1), .second, .val (.int p2), .val (.long q3), .second, .val (.long q4), .second, .val (.long q5), .second, .val (.int p6), .val (.int (p2.toInt16.toInt32)), .val (.int j1_0), .val (.int (1 : Int32)), .val (.int j57_0), .val (.ref b58), .val (.ref b61), .val (.ref b61), .val .null, .val (.ref b64)] [(.ref b64)])) rfl (by rw [hml]; rfl) (Steps.refl _) (argsL := []) (rest := []) (lenOf pd_4 rfl) rfl (by show 2 * 0 + _ ≤ _; exact Nat.le_of_eq rfl) (hb hby at_205) (fun _ _ => ⟨rfl, eq98, (by decide : 4 + 0 ≤ _), (by decide : 17 + 0 ≤ _)⟩)
            dsimp only [Pt.U, Pt.locs, Pt.cells, Pt.slots] at X100 l100 y100 z100 st100 hQ100
            subst l100 y100 z100
            obtain ⟨rfl, Nq100, eq100⟩ := hQ100
            refine Goes.run st100 ?_
            have N100 := Fr.app N98 Nq100
            show Goes p e below s _ _ _ (T100.setTop (mkF m 208 #[.val (.long q1), .second, .val (.int p2), .val (.long q3), .second, .val (.long q4), .second, .val (.long q5), .second, .val (.int p6), .val (.int (p2.toInt16.toInt32)), .val (.int j1_0), .val (.int (1 : Int32)), .val (.int j57_0), .val (.ref b58), .val (.ref b61), .val (.ref b61), .val .null, .val (.ref b64)] [(.int (1 : Int32))]))
            refine Goes.pre (fun t kt => XS.ifNo X100.here hx rfl (hb hby at_208) rfl (Jvm.Free.XT.i0_eq_f ((by decide))) kt) ?_
            show Goes p e below s _ _ _ (T100.setTop (mkF m 211 #[.val (.long q1), .second, .val (.int p2), .val (.long q3), .second, .val (.long q4), .second, .val (.long q5), .second, .val (.int p6), .val (.int (p2.toInt16.toInt32)), .val (.int j1_0), .val (.int (1 : Int32)), .val (.int j57_0), .val (.ref b58), .val (.ref b61), .val (.ref b61), .val .null, .val (.ref b64)] []))
            refine Goes.pre (fun t kt => XS.aload X100.here hx rfl (hb hby at_211) rfl rfl kt) ?_
            show Goes p e below s _ _ _ (T100.setTop (mkF m 213 #[.val (.long q1), .second, .val (.int p2), .val (.long q3), .second, .val (.long q4), .second, .val (.long q5), .second, .val (.int p6), .val (.int (p2.toInt16.toInt32)), .val (.int j1_0), .val (.int (1 : Int32)), .val (.int j57_0), .val (.ref b58), .val (.ref b61), .val (.ref b61), .val .null, .val (.ref b64)] [(.ref b64)]))
            obtain ⟨cq103, kq103, qa103, qb103, qc103⟩ := isOf hZ eq100 fc97
            obtain ⟨_, _, ⟨T102, L102, k102, n102⟩, -, X102, ⟨Lc102, hQ102, l102, y102, z102⟩, st102⟩ := X100.virtualBack hx (y := (⟨"com/example/seqlint/seqlint/kafka/Transaction", "firstOffset", "()J"⟩ : MethodName)) (z := (⟨"com/example/seqlint/seqlint/kafka/Transaction", "firstOffset", "()J"⟩ : MethodName)) hown (mvT hZ (hw _ (List.mem_of_getElem? (i := 77) rfl))) (mvT hZ (hw _ (List.mem_of_getElem? (i := 78) rfl))) (notFace_of_selects (args := #[]) (mvT hZ (hw _ (List.mem_of_getElem? (i := 80) rfl)))) (mvT hZ (hw _ (List.mem_of_getElem? (i := 80) rfl))) (mvT hZ (hw _ (List.mem_of_getElem? (i := 79) rfl))) (by decide) (backOf (W := 0) (rm12 l Z a0 hw [] b64 q3 h93 n0 Z93 pq93_2) hZ (hw _ (List.mem_of_getElem? (i := 81) rfl)) (hw _ (List.mem_of_getElem? (i := 32) rfl)) (by decide) (by decide)) qa103 qc103 (g := (mkF m 213 #[.val (.long q1), .second, .val (.int p2), .val (.long q3), .second, .val (.long q4), .second, .val (.long q5), .second, .val (.int p6), .val (.int (p2.toInt16.toInt32)), .val (.int j1_0), .val (.int (1 : Int32)), .val (.int j57_0), .val (.ref b58), .val (.ref b61), .val (.ref b61), .val .null, .val (.ref b64)] [(.ref b64)])) rfl (by rw [hml]; rfl) (Steps.refl _) (argsL := []) (rest := []) (lenOf pd_6 rfl) rfl (by show 2 * 0 + _ ≤ _; exact Nat.le_of_eq rfl) (hb hby at_213) (fun _ _ => ⟨rfl, eq100, (by decide : 4 + 0 ≤ _), (by decide : 17 + 0 ≤ _)⟩)
            dsimp only [Pt.U, Pt.locs, Pt.cells, Pt.slots] at X102 l102 y102 z102 st102 hQ102
            subst l102 y102 z102
            obtain ⟨rfl, Nq102, eq102⟩ := hQ102
            refine Goes.run st102 ?_
            have N102 := Fr.app N100 Nq102
            show Goes p e below s _ _ _ (T102.setTop (mkF m 216 #[.val (.long q1), .second, .val (.int p2), .val (.long q3), .second, .val (.long q4), .second, .val (.long q5), .second, .val (.int p6), .val (.int (p2.toInt16.toInt32)), .val (.int j1_0), .val (.int (1 : Int32)), .val (.int j57_0), .val (.ref b58), .val (.ref b61), .val (.ref b61), .val .null, .val (.ref b64)] [(.long q3)]))
            refine Goes.pre (fun t kt => XS.lloadN X102.here hx rfl (hb hby at_216) rfl kt) ?_
            show Goes p e below s _ _ _ (T102.setTop (mkF m 217 #[.val (.long q1), .second, .val (.int p2), .val (.long q3), .second, .val (.long q4), .second, .val (.long q5), .second, .val (.int p6), .val (.int (p2.toInt16.toInt32)), .val (.int j1_0), .val (.int (1 : Int32)), .val (.int j57_0), .val (.ref b58), .val (.ref b61), .val (.ref b61), .val .null, .val (.ref b64)] [(.long q3), (.long q3)]))
            refine Goes.pre (fun t kt => XS.lcmp X102.here hx rfl (hb hby at_217) rfl kt) ?_
            show Goes p e below s _ _ _ (T102.setTop (mkF m 218 #[.val (.long q1), .second, .val (.int p2), .val (.long q3), .second, .val (.long q4), .second, .val (.long q5), .second, .val (.int p6), .val (.int (p2.toInt16.toInt32)), .val (.int j1_0), .val (.int (1 : Int32)), .val (.int j57_0), .val (.ref b58), .val (.ref b61), .val (.ref b61), .val .null, .val (.ref b64)] [(.int (lcmpW q3 q3))]))
            refine Goes.pre (fun t kt => XS.ifNo X102.here hx rfl (hb hby at_218) rfl (Jvm.Free.XT.i0_ne_f ((lw_eq _ _).mpr rfl)) kt) ?_
            show Goes p e below s _ _ _ (T102.setTop (mkF m 221 #[.val (.long q1), .second, .val (.int p2), .val (.long q3), .second, .val (.long q4), .second, .val (.long q5), .second, .val (.int p6), .val (.int (p2.toInt16.toInt32)), .val (.int j1_0), .val (.int (1 : Int32)), .val (.int j57_0), .val (.ref b58), .val (.ref b61), .val (.ref b61), .val .null, .val (.ref b64)] []))
            refine Goes.pre (fun t kt => XS.aload X102.here hx rfl (hb hby at_221) rfl rfl kt) ?_
            show Goes p e below s _ _ _ (T102.setTop (mkF m 223 #[.val (.long q1), .second, .val (.int p2), .val (.long q3), .second, .val (.long q4), .second, .val (.long q5), .second, .val (.int p6), .val (.int (p2.toInt16.toInt32)), .val (.int j1_0), .val (.int (1 : Int32)), .val (.int j57_0), .val (.ref b58), .val (.ref b61), .val (.ref b61), .val .null, .val (.ref b64)] [(.ref b64)]))
            obtain ⟨cq105, kq105, qa105, qb105, qc105⟩ := isOf hZ eq102 fc97
            obtain ⟨_, _, ⟨T104, L104, k104, n104⟩, -, X104, ⟨Lc104, hQ104, l104, y104, z104⟩, st104⟩ := X102.virtualBack hx (y := (⟨"com/example/seqlint/seqlint/kafka/Transaction", "position", "()J"⟩ : MethodName)) (z := (⟨"com/example/seqlint/seqlint/kafka/Transaction", "position", "()J"⟩ : MethodName)) hown (mvT hZ (hw _ (List.mem_of_getElem? (i := 82) rfl))) (mvT hZ (hw _ (List.mem_of_getElem? (i := 83) rfl))) (notFace_of_selects (args := #[]) (mvT hZ (hw _ (List.mem_of_getElem? (i := 85) rfl)))) (mvT hZ (hw _ (List.mem_of_getElem? (i := 85) rfl))) (mvT hZ (hw _ (List.mem_of_getElem? (i := 84) rfl))) (by decide) (backOf (W := 0) (rm13 l Z a0 hw [] b64 q4 h93 n0 Z93 pq93_3) hZ (hw _ (List.mem_of_getElem? (i := 86) rfl)) (hw _ (List.mem_of_getElem? (i := 32) rfl)) (by decide) (by decide)) qa105 qc105 (g := (mkF m 223 #[.val (.long q1), .second, .val (.int p2), .val (.long q3), .second, .val (.long q4), .second, .val (.long q5), .second, .val (.int p6), .val (.int (p2.toInt16.toInt32)), .val (.int j1_0), .val (.int (1 : Int32)), .val (.int j57_0), .val (.ref b58), .val (.ref b61), .val (.ref b61), .val .null, .val (.ref b64)] [(.ref b64)])) rfl (by rw [hml]; rfl) (Steps.refl _) (argsL := []) (rest := []) (lenOf pd_6 rfl) rfl (by show 2 * 0 + _ ≤ _; exact Nat.le_of_eq rfl) (hb hby at_223) (fun _ _ => ⟨rfl, eq102, (by decide : 4 + 0 ≤ _), (by decide : 17 + 0 ≤ _)⟩)
            dsimp only [Pt.U, Pt.locs, Pt.cells, Pt.slots] at X104 l104 y104 z104 st104 hQ104
            subst l104 y104 z104
            obtain ⟨rfl, Nq104, eq104⟩ := hQ104
            refine Goes.run st104 ?_
            have N104 := Fr.app N102 Nq104
            show Goes p e below s _ _ _ (T104.setTop (mkF m 226 #[.val (.long q1), .second, .val (.int p2), .val (.long q3), .second, .val (.long q4), .second, .val (.long q5), .second, .val (.int p6), .val (.int (p2.toInt16.toInt32)), .val (.int j1_0), .val (.int (1 : Int32)), .val (.int j57_0), .val (.ref b58), .val (.ref b61), .val (.ref b61), .val .null, .val (.ref b64)] [(.long q4)]))
            refine Goes.pre (fun t kt => XS.lload X104.here hx rfl (hb hby at_226) rfl kt) ?_
            show Goes p e below s _ _ _ (T104.setTop (mkF m 228 #[.val (.long q1), .second, .val (.int p2), .val (.long q3), .second, .val (.long q4), .second, .val (.long q5), .second, .val (.int p6), .val (.int (p2.toInt16.toInt32)), .val (.int j1_0), .val (.int (1 : Int32)), .val (.int j57_0), .val (.ref b58), .val (.ref b61), .val (.ref b61), .val .null, .val (.ref b64)] [(.long q4), (.long q4)]))
            refine Goes.pre (fun t kt => XS.lcmp X104.here hx rfl (hb hby at_228) rfl kt) ?_
            show Goes p e below s _ _ _ (T104.setTop (mkF m 229 #[.val (.long q1), .second, .val (.int p2), .val (.long q3), .second, .val (.long q4), .second, .val (.long q5), .second, .val (.int p6), .val (.int (p2.toInt16.toInt32)), .val (.int j1_0), .val (.int (1 : Int32)), .val (.int j57_0), .val (.ref b58), .val (.ref b61), .val (.ref b61), .val .null, .val (.ref b64)] [(.int (lcmpW q4 q4))]))
            refine Goes.pre (fun t kt => XS.ifNo X104.here hx rfl (hb hby at_229) rfl (Jvm.Free.XT.i0_ne_f ((lw_eq _ _).mpr rfl)) kt) ?_
            show Goes p e below s _ _ _ (T104.setTop (mkF m 232 #[.val (.long q1), .second, .val (.int p2), .val (.long q3), .second, .val (.long q4), .second, .val (.long q5), .second, .val (.int p6), .val (.int (p2.toInt16.toInt32)), .val (.int j1_0), .val (.int (1 : Int32)), .val (.int j57_0), .val (.ref b58), .val (.ref b61), .val (.ref b61), .val .null, .val (.ref b64)] []))
            refine Goes.pre (fun t kt => XS.aload X104.here hx rfl (hb hby at_232) rfl rfl kt) ?_
            show Goes p e below s _ _ _ (T104.setTop (mkF m 234 #[.val (.long q1), .second, .val (.int p2), .val (.long q3), .second, .val (.long q4), .second, .val (.long q5), .second, .val (.int p6), .val (.int (p2.toInt16.toInt32)), .val (.int j1_0), .val (.int (1 : Int32)), .val (.int j57_0), .val (.ref b58), .val (.ref b61), .val (.ref b61), .val .null, .val (.ref b64)] [(.ref b64)]))
            obtain ⟨cq107, kq107, qa107, qb107, qc107⟩ := isOf hZ eq104 fc97
            obtain ⟨_, _, ⟨T106, L106, k106, n106⟩, -, X106, ⟨Lc106, hQ106, l106, y106, z106⟩, st106⟩ := X104.virtualBack hx (y := (⟨"com/example/seqlint/seqlint/kafka/Transaction", "file", "()Ljava/lang/String;"⟩ : MethodName)) (z := (⟨"com/example/seqlint/seqlint/kafka/Transaction", "file", "()Ljava/lang/String;"⟩ : MethodName)) hown (mvT hZ (hw _ (List.mem_of_getElem? (i := 87) rfl))) (mvT hZ (hw _ (List.mem_of_getElem? (i := 88) rfl))) (notFace_of_selects (args := #[]) (mvT hZ (hw _ (List.mem_of_getElem? (i := 90) rfl)))) (mvT hZ (hw _ (List.mem_of_getElem? (i := 90) rfl))) (mvT hZ (hw _ (List.mem_of_getElem? (i := 89) rfl))) (by decide) (backOf (W := 0) (rm14r l Z a0 hw [] b64 b61 h93 n0 Z93 pq93_4) hZ (hw _ (List.mem_of_getElem? (i := 91) rfl)) (hw _ (List.mem_of_getElem? (i := 32) rfl)) (by decide) (by decide)) qa107 qc107 (g := (mkF m 234 #[.val (.long q1), .second, .val (.int p2), .val (.long q3), .second, .val (.long q4), .second, .val (.long q5), .second, .val (.int p6), .val (.int (p2.toInt16.toInt32)), .val (.int j1_0), .val (.int (1 : Int32)), .val (.int j57_0), .val (.ref b58), .val (.ref b61), .val (.ref b61), .val .null, .val (.ref b64)] [(.ref b64)])) rfl (by rw [hml]; rfl) (Steps.refl _) (argsL := []) (rest := []) (lenOf pd_7 rfl) rfl (by show 2 * 0 + _ ≤ _; exact Nat.le_of_eq rfl) (hb hby at_234) (fun _ _ => ⟨rfl, eq104, (by decide : 4 + 0 ≤ _), (by decide : 17 + 0 ≤ _)⟩)
            dsimp only [Pt.U, Pt.locs, Pt.cells, Pt.slots] at X106 l106 y106 z106 st106 hQ106
            subst l106 y106 z106
            obtain ⟨rfl, Nq106, eq106⟩ := hQ106
            refine Goes.run st106 ?_
            have N106 := Fr.app N104 Nq106
            show Goes p e below s _ _ _ (T106.setTop (mkF m 237 #[.val (.long q1), .second, .val (.int p2), .val (.long q3), .second, .val (.long q4), .second, .val (.long q5), .second, .val (.int p6), .val (.int (p2.toInt16.toInt32)), .val (.int j1_0), .val (.int (1 : Int32)), .val (.int j57_0), .val (.ref b58), .val (.ref b61), .val (.ref b61), .val .null, .val (.ref b64)] [(.ref b61)]))
            refine Goes.pre (fun t kt => XS.aload X106.here hx rfl (hb hby at_237) rfl rfl kt) ?_
            show Goes p e below s _ _ _ (T106.setTop (mkF m 239 #[.val (.long q1), .second, .val (.int p2), .val (.long q3), .second, .val (.long q4), .second, .val (.long q5), .second, .val (.int p6), .val (.int (p2.toInt16.toInt32)), .val (.int j1_0), .val (.int (1 : Int32)), .val (.int j57_0), .val (.ref b58), .val (.ref b61), .val (.ref b61), .val .null, .val (.ref b64)] [(.ref b61), (.ref b61)]))
            refine Goes.pre (fun t kt => Jvm.RoadKit.acmp (g := (mkF m 239 #[.val (.long q1), .second, .val (.int p2), .val (.long q3), .second, .val (.long q4), .second, .val (.long q5), .second, .val (.int p6), .val (.int (p2.toInt16.toInt32)), .val (.int j1_0), .val (.int (1 : Int32)), .val (.int j57_0), .val (.ref b58), .val (.ref b61), .val (.ref b61), .val .null, .val (.ref b64)] [(.ref b61), (.ref b61)])) X106 hx rfl rfl rfl (pc0 := 239) (pc' := 242) (same := true) rfl (hb hby at_239) rfl (decide_eq_true rfl) (by decide) (by decide) kt) ?_
            show Goes p e below s _ _ _ (T106.setTop (mkF m 242 #[.val (.long q1), .second, .val (.int p2), .val (.long q3), .second, .val (.long q4), .second, .val (.long q5), .second, .val (.int p6), .val (.int (p2.toInt16.toInt32)), .val (.int j1_0), .val (.int (1 : Int32)), .val (.int j57_0), .val (.ref b58), .val (.ref b61), .val (.ref b61), .val .null, .val (.ref b64)] []))
            refine Goes.pre (fun t kt => XS.aload X106.here hx rfl (hb hby at_242) rfl rfl kt) ?_
            show Goes p e below s _ _ _ (T106.setTop (mkF m 244 #[.val (.long q1), .second, .val (.int p2), .val (.long q3), .second, .val (.long q4), .second, .val (.long q5), .second, .val (.int p6), .val (.int (p2.toInt16.toInt32)), .val (.int j1_0), .val (.int (1 : Int32)), .val (.int j57_0), .val (.ref b58), .val (.ref b61), .val (.ref b61), .val .null, .val (.ref b64)] [(.ref b64)]))
            obtain ⟨cq109, kq109, qa109, qb109, qc109⟩ := isOf hZ eq106 fc97
            obtain ⟨_, _, ⟨T108, L108, k108, n108⟩, -, X108, ⟨Lc108, hQ108, l108, y108, z108⟩, st108⟩ := X106.virtualBack hx (y := (⟨"com/example/seqlint/seqlint/kafka/Transaction", "firstTimestamp", "()J"⟩ : MethodName)) (z := (⟨"com/example/seqlint/seqlint/kafka/Transaction", "firstTimestamp", "()J"⟩ : MethodName)) hown (mvT hZ (hw _ (List.mem_of_getElem? (i := 92) rfl))) (mvT hZ (hw _ (List.mem_of_getElem? (i := 93) rfl))) (notFace_of_selects (args := #[]) (mvT hZ (hw _ (List.mem_of_getElem? (i := 95) rfl)))) (mvT hZ (hw _ (List.mem_of_getElem? (i := 95) rfl))) (mvT hZ (hw _ (List.mem_of_getElem? (i := 94) rfl))) (by decide) (backOf (W := 0) (rm15 l Z a0 hw [] b64 q5 h93 n0 Z93 pq93_5) hZ (hw _ (List.mem_of_getElem? (i := 96) rfl)) (hw _ (List.mem_of_getElem? (i := 32) rfl)) (by decide) (by decide)) qa109 qc109 (g := (mkF m 244 #[.val (.long q1), .second, .val (.int p2), .val (.long q3), .second, .val (.long q4), .second, .val (.long q5), .second, .val (.int p6), .val (.int (p2.toInt16.toInt32)), .val (.int j1_0), .val (.int (1 : Int32)), .val (.int j57_0), .val (.ref b58), .val (.ref b61), .val (.ref b61), .val .null, .val (.ref b64)] [(.ref b64)])) rfl (by rw [hml]; rfl) (Steps.refl _) (argsL := []) (rest := []) (lenOf pd_6 rfl) rfl (by show 2 * 0 + _ ≤ _; exact Nat.le_of_eq rfl) (hb hby at_244) (fun _ _ => ⟨rfl, eq106, (by decide : 4 + 0 ≤ _), (by decide : 17 + 0 ≤ _)⟩)
            dsimp only [Pt.U, Pt.locs, Pt.cells, Pt.slots] at X108 l108 y108 z108 st108 hQ108
            subst l108 y108 z108
            obtain ⟨rfl, Nq108, eq108⟩ := hQ108
            refine Goes.run st108 ?_
            have N108 := Fr.app N106 Nq108
            show Goes p e below s _ _ _ (T108.setTop (mkF m 247 #[.val (.long q1), .second, .val (.int p2), .val (.long q3), .second, .val (.long q4), .second, .val (.long q5), .second, .val (.int p6), .val (.int (p2.toInt16.toInt32)), .val (.int j1_0), .val (.int (1 : Int32)), .val (.int j57_0), .val (.ref b58), .val (.ref b61), .val (.ref b61), .val .null, .val (.ref b64)] [(.long q5)]))
            refine Goes.pre (fun t kt => XS.lload X108.here hx rfl (hb hby at_247) rfl kt) ?_
            show Goes p e below s _ _ _ (T108.setTop (mkF m 249 #[.val (.long q1), .second, .val (.int p2), .val (.long q3), .second, .val (.long q4), .second, .val (.long q5), .second, .val (.int p6), .val (.int (p2.toInt16.toInt32)), .val (.int j1_0), .val (.int (1 : Int32)), .val (.int j57_0), .val (.ref b58), .val (.ref b61), .val (.ref b61), .val .null, .val (.ref b64)] [(.long q5), (.long q5)]))
            refine Goes.pre (fun t kt => XS.lcmp X108.here hx rfl (hb hby at_249) rfl kt) ?_
            show Goes p e below s _ _ _ (T108.setTop (mkF m 250 #[.val (.long q1), .second, .val (.int p2), .val (.long q3), .second, .val (.long q4), .second, .val (.long q5), .second, .val (.int p6), .val (.int (p2.toInt16.toInt32)), .val (.int j1_0), .val (.int (1 : Int32)), .val (.int j57_0), .val (.ref b58), .val (.ref b61), .val (.ref b61), .val .null, .val (.ref b64)] [(.int (lcmpW q5 q5))]))
            refine Goes.pre (fun t kt => XS.ifNo X108.here hx rfl (hb hby at_250) rfl (Jvm.Free.XT.i0_ne_f ((lw_eq _ _).mpr rfl)) kt) ?_
            show Goes p e below s _ _ _ (T108.setTop (mkF m 253 #[.val (.long q1), .second, .val (.int p2), .val (.long q3), .second, .val (.long q4), .second, .val (.long q5), .second, .val (.int p6), .val (.int (p2.toInt16.toInt32)), .val (.int j1_0), .val (.int (1 : Int32)), .val (.int j57_0), .val (.ref b58), .val (.ref b61), .val (.ref b61), .val .null, .val (.ref b64)] []))
            refine Goes.pre (fun t kt => XS.aload X108.here hx rfl (hb hby at_253) rfl rfl kt) ?_
            show Goes p e below s _ _ _ (T108.setTop (mkF m 255 #[.val (.long q1), .second, .val (.int p2), .val (.long q3), .second, .val (.long q4), .second, .val (.long q5), .second, .val (.int p6), .val (.int (p2.toInt16.toInt32)), .val (.int j1_0), .val (.int (1 : Int32)), .val (.int j57_0), .val (.ref b58), .val (.ref b61), .val (.ref b61), .val .null, .val (.ref b64)] [(.ref b64)]))
            obtain ⟨cq111, kq111, qa111, qb111, qc111⟩ := isOf hZ eq108 fc97
            obtain ⟨_, _, ⟨T110, L110, k110, n110⟩, -, X110, ⟨Lc110, hQ110, l110, y110, z110⟩, st110⟩ := X108.virtualBack hx (y := (⟨"com/example/seqlint/seqlint/kafka/Transaction", "isReported", "()Z"⟩ : MethodName)) (z := (⟨"com/example/seqlint/seqlint/kafka/Transaction", "isReported", "()Z"⟩ : MethodName)) hown (mvT hZ (hw _ (List.mem_of_getElem? (i := 97) rfl))) (mvT hZ (hw _ (List.mem_of_getElem? (i := 98) rfl))) (notFace_of_selects (args := #[]) (mvT hZ (hw _ (List.mem_of_getElem? (i := 100) rfl)))) (mvT hZ (hw _ (List.mem_of_getElem? (i := 100) rfl))) (mvT hZ (hw _ (List.mem_of_getElem? (i := 99) rfl))) (by decide) (backOf (W := 0) (rm16 l Z a0 hw [] b64 (j1_0 &&& 1) h93 n0 Z93 pq93_6) hZ (hw _ (List.mem_of_getElem? (i := 101) rfl)) (hw _ (List.mem_of_getElem? (i := 32) rfl)) (by decide) (by decide)) qa111 qc111 (g := (mkF m 255 #[.val (.long q1), .second, .val (.int p2), .val (.long q3), .second, .val (.long q4), .second, .val (.long q5), .second, .val (.int p6), .val (.int (p2.toInt16.toInt32)), .val (.int j1_0), .val (.int (1 : Int32)), .val (.int j57_0), .val (.ref b58), .val (.ref b61), .val (.ref b61), .val .null, .val (.ref b64)] [(.ref b64)])) rfl (by rw [hml]; rfl) (Steps.refl _) (argsL := []) (rest := []) (lenOf pd_4 rfl) rfl (by show 2 * 0 + _ ≤ _; exact Nat.le_of_eq rfl) (hb hby at_255) (fun _ _ => ⟨rfl, eq108, (by decide : 4 + 0 ≤ _), (by decide : 17 + 0 ≤ _)⟩)
            dsimp only [Pt.U, Pt.locs, Pt.cells, Pt.slots] at X110 l110 y110 z110 st110 hQ110
            subst l110 y110 z110
            obtain ⟨rfl, Nq110, eq110⟩ := hQ110
            refine Goes.run st110 ?_
            have N110 := Fr.app N108 Nq110
            show Goes p e below s _ _ _ (T110.setTop (mkF m 258 #[.val (.long q1), .second, .val (.int p2), .val (.long q3), .second, .val (.long q4), .second, .val (.long q5), .second, .val (.int p6), .val (.int (p2.toInt16.toInt32)), .val (.int j1_0), .val (.int (1 : Int32)), .val (.int j57_0), .val (.ref b58), .val (.ref b61), .val (.ref b61), .val .null, .val (.ref b64)] [(.int ((j1_0 &&& 1) &&& 1))]))
            refine Goes.pre (fun t kt => XS.iload X110.here hx rfl (hb hby at_258) rfl kt) ?_
            show Goes p e below s _ _ _ (T110.setTop (mkF m 260 #[.val (.long q1), .second, .val (.int p2), .val (.long q3), .second, .val (.long q4), .second, .val (.long q5), .second, .val (.int p6), .val (.int (p2.toInt16.toInt32)), .val (.int j1_0), .val (.int (1 : Int32)), .val (.int j57_0), .val (.ref b58), .val (.ref b61), .val (.ref b61), .val .null, .val (.ref b64)] [(.int j1_0), (.int ((j1_0 &&& 1) &&& 1))]))
            refine Goes.pre (fun t kt => XS.icmpNo X110.here hx rfl (hb hby at_260) rfl (Jvm.Free.XT.ii_ne_f ((own_b1 hb8))) kt) ?_
            show Goes p e below s _ _ _ (T110.setTop (mkF m 263 #[.val (.long q1), .second, .val (.int p2), .val (.long q3), .second, .val (.long q4), .second, .val (.long q5), .second, .val (.int p6), .val (.int (p2.toInt16.toInt32)), .val (.int j1_0), .val (.int (1 : Int32)), .val (.int j57_0), .val (.ref b58), .val (.ref b61), .val (.ref b61), .val .null, .val (.ref b64)] []))
            refine Goes.pre (fun t kt => XS.iconst X110.here hx rfl (hb hby at_263) kt) ?_
            show Goes p e below s _ _ _ (T110.setTop (mkF m 264 #[.val (.long q1), .second, .val (.int p2), .val (.long q3), .second, .val (.long q4), .second, .val (.long q5), .second, .val (.int p6), .val (.int (p2.toInt16.toInt32)), .val (.int j1_0), .val (.int (1 : Int32)), .val (.int j57_0), .val (.ref b58), .val (.ref b61), .val (.ref b61), .val .null, .val (.ref b64)] [(.int (1 : Int32))]))
            refine Goes.pre (fun t kt => XS.goto X110.here hx rfl (pc0 := 264) (pc' := 268) rfl (hb hby at_264) (by decide) (by decide) kt) ?_
            show Goes p e below s _ _ _ (T110.setTop (mkF m 268 #[.val (.long q1), .second, .val (.int p2), .val (.long q3), .second, .val (.long q4), .second, .val (.long q5), .second, .val (.int p6), .val (.int (p2.toInt16.toInt32)), .val (.int j1_0), .val (.int (1 : Int32)), .val (.int j57_0), .val (.ref b58), .val (.ref b61), .val (.ref b61), .val .null, .val (.ref b64)] [(.int (1 : Int32))]))
            refine Goes.ret X110 (some (.int (1 : Int32))) (fun h => by rw [Bd.returns] at h; cases h) (BodyLoose.notSynchronized Bd) (by decide) (by decide) (fun fs hr => retN X110 hx (t := .boolean) Bd.returns (by simp) (hb hby at_268) hr) ?_
            show Q_rm0 Z q1 p2 q3 q4 q5 p6 G1 h0 n0 _ T110.heap _
            rw [eq110]
            exact ⟨rfl, N110⟩
          by_cases hc158 : j1_0 = (0 : Int32)
          · refine Goes.pre (fun t kt => XS.ifNo X67.here hx rfl (hb hby at_158) rfl (Jvm.Free.XT.i0_ne_f (hc158)) kt) ?_
            show Goes p e below s _ _ _ (T67.setTop (mkF m 161 #[.val (.long q1), .second, .val (.int p2), .val (.long q3), .second, .val (.long q4), .second, .val (.long q5), .second, .val (.int p6), .val (.int (p2.toInt16.toInt32)), .val (.int j1_0), .val (.int (1 : Int32)), .val (.int j57_0), .val (.ref b58), .val (.ref b61), .val (.ref b61), .val .null, .val (.ref b64)] [(.long (q5 ^^^ (-1 : Int64))), .null, (.long (q4 ^^^ (-1 : Int64))), (.long (q3 ^^^ (-1 : Int64))), (.int ((p2 ^^^ (-1 : Int32)).toInt16.toInt32)), (.ref b64)]))
            refine Goes.pre (fun t kt => XS.iconst X67.here hx rfl (hb hby at_161) kt) ?_
            show Goes p e below s _ _ _ (T67.setTop (mkF m 162 #[.val (.long q1), .second, .val (.int p2), .val (.long q3), .second, .val (.long q4), .second, .val (.long q5), .second, .val (.int p6), .val (.int (p2.toInt16.toInt32)), .val (.int j1_0), .val (.int (1 : Int32)), .val (.int j57_0), .val (.ref b58), .val (.ref b61), .val (.ref b61), .val .null, .val (.ref b64)] [(.int (1 : Int32)), (.long (q5 ^^^ (-1 : Int64))), .null, (.long (q4 ^^^ (-1 : Int64))), (.long (q3 ^^^ (-1 : Int64))), (.int ((p2 ^^^ (-1 : Int32)).toInt16.toInt32)), (.ref b64)]))
            refine Goes.pre (fun t kt => XS.goto X67.here hx rfl (pc0 := 162) (pc' := 166) rfl (hb hby at_162) (by decide) (by decide) kt) ?_
            show Goes p e below s _ _ _ (T67.setTop (mkF m 166 #[.val (.long q1), .second, .val (.int p2), .val (.long q3), .second, .val (.long q4), .second, .val (.long q5), .second, .val (.int p6), .val (.int (p2.toInt16.toInt32)), .val (.int j1_0), .val (.int (1 : Int32)), .val (.int j57_0), .val (.ref b58), .val (.ref b61), .val (.ref b61), .val .null, .val (.ref b64)] [(.int (1 : Int32)), (.long (q5 ^^^ (-1 : Int64))), .null, (.long (q4 ^^^ (-1 : Int64))), (.long (q3 ^^^ (-1 : Int64))), (.int ((p2 ^^^ (-1 : Int32)).toInt16.toInt32)), (.ref b64)]))
            exact J88 ((1 : Int32)) 
          · refine Goes.pre (fun t kt => XS.ifYes X67.here hx rfl (pc0 := 158) (pc' := 165) rfl (hb hby at_158) rfl (Jvm.Free.XT.i0_ne_t (hc158)) (by decide) (by decide) kt) ?_
            show Goes p e below s _ _ _ (T67.setTop (mkF m 165 #[.val (.long q1), .second, .val (.int p2), .val (.long q3), .second, .val (.long q4), .second, .val (.long q5), .second, .val (.int p6), .val (.int (p2.toInt16.toInt32)), .val (.int j1_0), .val (.int (1 : Int32)), .val (.int j57_0), .val (.ref b58), .val (.ref b61), .val (.ref b61), .val .null, .val (.ref b64)] [(.long (q5 ^^^ (-1 : Int64))), .null, (.long (q4 ^^^ (-1 : Int64))), (.long (q3 ^^^ (-1 : Int64))), (.int ((p2 ^^^ (-1 : Int32)).toInt16.toInt32)), (.ref b64)]))
            refine Goes.pre (fun t kt => XS.iconst X67.here hx rfl (hb hby at_165) kt) ?_
            show Goes p e below s _ _ _ (T67.setTop (mkF m 166 #[.val (.long q1), .second, .val (.int p2), .val (.long q3), .second, .val (.long q4), .second, .val (.long q5), .second, .val (.int p6), .val (.int (p2.toInt16.toInt32)), .val (.int j1_0), .val (.int (1 : Int32)), .val (.int j57_0), .val (.ref b58), .val (.ref b61), .val (.ref b61), .val .null, .val (.ref b64)] [(.int (0 : Int32)), (.long (q5 ^^^ (-1 : Int64))), .null, (.long (q4 ^^^ (-1 : Int64))), (.long (q3 ^^^ (-1 : Int64))), (.int ((p2 ^^^ (-1 : Int32)).toInt16.toInt32)), (.ref b64)]))
            exact J88 ((0 : Int32)) 
      by_cases hc36 : (p6 &&& (4 : Int32)) = (0 : Int32)
      · refine Goes.pre (fun t kt => XS.ifYes X0.here hx rfl (pc0 := 36) (pc' := 43) rfl (hb hby at_36) rfl (Jvm.Free.XT.i0_eq_t (hc36)) (by decide) (by decide) kt) ?_
        show Goes p e below s _ _ _ (s₁.setTop (mkF m 43 #[.val (.long q1), .second, .val (.int p2), .val (.long q3), .second, .val (.long q4), .second, .val (.long q5), .second, .val (.int p6), .val (.int (p2.toInt16.toInt32)), .val (.int j1_0), .val (.int (1 : Int32)), .unset, .unset, .unset, .unset, .unset, .unset] []))
        refine Goes.pre (fun t kt => XS.iconst X0.here hx rfl (hb hby at_43) kt) ?_
        show Goes p e below s _ _ _ (s₁.setTop (mkF m 44 #[.val (.long q1), .second, .val (.int p2), .val (.long q3), .second, .val (.long q4), .second, .val (.long q5), .second, .val (.int p6), .val (.int (p2.toInt16.toInt32)), .val (.int j1_0), .val (.int (1 : Int32)), .unset, .unset, .unset, .unset, .unset, .unset] [(.int (0 : Int32))]))
        exact J57 ((0 : Int32)) 
      · refine Goes.pre (fun t kt => XS.ifNo X0.here hx rfl (hb hby at_36) rfl (Jvm.Free.XT.i0_eq_f (hc36)) kt) ?_
        show Goes p e below s _ _ _ (s₁.setTop (mkF m 39 #[.val (.long q1), .second, .val (.int p2), .val (.long q3), .second, .val (.long q4), .second, .val (.long q5), .second, .val (.int p6), .val (.int (p2.toInt16.toInt32)), .val (.int j1_0), .val (.int (1 : Int32)), .unset, .unset, .unset, .unset, .unset, .unset] []))
        refine Goes.pre (fun t kt => XS.iconst X0.here hx rfl (hb hby at_39) kt) ?_
        show Goes p e below s _ _ _ (s₁.setTop (mkF m 40 #[.val (.long q1), .second, .val (.int p2), .val (.long q3), .second, .val (.long q4), .second, .val (.long q5), .second, .val (.int p6), .val (.int (p2.toInt16.toInt32)), .val (.int j1_0), .val (.int (1 : Int32)), .unset, .unset, .unset, .unset, .unset, .unset] [(.int (1 : Int32))]))
        refine Goes.pre (fun t kt => XS.goto X0.here hx rfl (pc0 := 40) (pc' := 44) rfl (hb hby at_40) (by decide) (by decide) kt) ?_
        show Goes p e below s _ _ _ (s₁.setTop (mkF m 44 #[.val (.long q1), .second, .val (.int p2), .val (.long q3), .second, .val (.long q4), .second, .val (.long q5), .second, .val (.int p6), .val (.int (p2.toInt16.toInt32)), .val (.int j1_0), .val (.int (1 : Int32)), .unset, .unset, .unset, .unset, .unset, .unset] [(.int (1 : Int32))]))
        exact J57 ((1 : Int32)) 
  by_cases hc8 : (p6 &&& (1 : Int32)) = (0 : Int32)
  · refine Goes.pre (fun t kt => XS.ifYes X0.here hx rfl (pc0 := 8) (pc' := 15) rfl (hb hby at_8) rfl (Jvm.Free.XT.i0_eq_t (hc8)) (by decide) (by decide) kt) ?_
    show Goes p e below s _ _ _ (s₁.setTop (mkF m 15 #[.val (.long q1), .second, .val (.int p2), .val (.long q3), .second, .val (.long q4), .second, .val (.long q5), .second, .val (.int p6), .val (.int (p2.toInt16.toInt32)), .unset, .unset, .unset, .unset, .unset, .unset, .unset, .unset] []))
    refine Goes.pre (fun t kt => XS.iconst X0.here hx rfl (hb hby at_15) kt) ?_
    show Goes p e below s _ _ _ (s₁.setTop (mkF m 16 #[.val (.long q1), .second, .val (.int p2), .val (.long q3), .second, .val (.long q4), .second, .val (.long q5), .second, .val (.int p6), .val (.int (p2.toInt16.toInt32)), .unset, .unset, .unset, .unset, .unset, .unset, .unset, .unset] [(.int (0 : Int32))]))
    exact J1 ((0 : Int32)) (Or.inl rfl)
  · refine Goes.pre (fun t kt => XS.ifNo X0.here hx rfl (hb hby at_8) rfl (Jvm.Free.XT.i0_eq_f (hc8)) kt) ?_
    show Goes p e below s _ _ _ (s₁.setTop (mkF m 11 #[.val (.long q1), .second, .val (.int p2), .val (.long q3), .second, .val (.long q4), .second, .val (.long q5), .second, .val (.int p6), .val (.int (p2.toInt16.toInt32)), .unset, .unset, .unset, .unset, .unset, .unset, .unset, .unset] []))
    refine Goes.pre (fun t kt => XS.iconst X0.here hx rfl (hb hby at_11) kt) ?_
    show Goes p e below s _ _ _ (s₁.setTop (mkF m 12 #[.val (.long q1), .second, .val (.int p2), .val (.long q3), .second, .val (.long q4), .second, .val (.long q5), .second, .val (.int p6), .val (.int (p2.toInt16.toInt32)), .unset, .unset, .unset, .unset, .unset, .unset, .unset, .unset] [(.int (1 : Int32))]))
    refine Goes.pre (fun t kt => XS.goto X0.here hx rfl (pc0 := 12) (pc' := 16) rfl (hb hby at_12) (by decide) (by decide) kt) ?_
    show Goes p e below s _ _ _ (s₁.setTop (mkF m 16 #[.val (.long q1), .second, .val (.int p2), .val (.long q3), .second, .val (.long q4), .second, .val (.long q5), .second, .val (.int p6), .val (.int (p2.toInt16.toInt32)), .unset, .unset, .unset, .unset, .unset, .unset, .unset, .unset] [(.int (1 : Int32))]))
    exact J1 ((1 : Int32)) (Or.inr rfl)
set_option maxRecDepth 65536 in
set_option maxHeartbeats 40000000 in
theorem comes_1 {Post : Tables → Env → Array Value → State → Outcome → State → Prop} (hpost : ∀ tb e args s v u, (limb_1_1.after args s (.returned v) u = true ∧ limb_1_2.after args s (.returned v) u = true ∧ True) → FrameEnd s (.returned v) u (Jvm.fieldLocs frame_1_writes args s ++ Jvm.arrayLocs frame_1_arrays args s ++ Jvm.staticLocs frame_1_statics s) 16 128 → Post tb e args s (.returned v) u) :
    ArmFor flags0 classFile x code maxLocals ret World_1 tables_1 room_1 Calls_1 rest_1 Pre_1 Post := by
  intro l hfl _ _ p e ha hc hk s m args below hf hA hF happ hP
  obtain ⟨hcalls, hrest, hpre⟩ := hP
  obtain ⟨-, -, -, hnamed, -, -, -, hat⟩ := (Spec.applies_iff hf).mp happ
  obtain ⟨hg, hn⟩ := and_e (Cond.before_iff.mp (show (Jvm.Cond.and given_1 narrow_1).before args s = true from hpre))
  obtain ⟨gv1, gv2⟩ := and_e hg
  obtain ⟨gv3, gv4⟩ := and_e gv2
  obtain ⟨gv5, gv6⟩ := and_e gv4
  obtain ⟨gv7, gv8⟩ := and_e gv6
  obtain ⟨gv9, gv10⟩ := and_e gv8
  obtain ⟨gv11, gv12⟩ := and_e gv10
  obtain ⟨w0, w1, w2, w3, w4, w5, rfl⟩ : ∃ w0 w1 w2 w3 w4 w5 : Value, args = #[w0, w1, w2, w3, w4, w5] := by
    have hs : args.size = 6 := by simpa [Cond.value, given_1] using gv1
    obtain ⟨L⟩ := args
    match L, hs with
    | [w0, w1, w2, w3, w4, w5], _ => exact ⟨w0, w1, w2, w3, w4, w5, rfl⟩
  have hw := fun d (hd : d ∈ tables_1) => atoms_spec (ws := Jvm.Cond.code x code maxLocals ret :: tables_1) hat d (List.mem_cons_of_mem _ hd)
  have hfit : Fit s := fun {y c} hc i hi => by
    obtain ⟨ha, rfl⟩ := Array.getElem?_eq_some_iff.mp hc
    have q := List.all_eq_true.mp ((Array.all_eq_true_iff_forall_mem.mp hF) _ (Array.getElem_mem ha)) i (List.mem_range.mpr hi)
    simpa [Array.getElem?_eq_getElem hi] using q
  obtain ⟨hsets, hown0⟩ := atoms_of _ (rest_1_c_eq ▸ (show rest_1_c.before _ s = true from hrest))
  have hr0 := Cond.before_iff.mp hown0
  obtain ⟨i0, ei0⟩ := isL_v gv3
  obtain rfl : w0 = (.long i0) := Option.some.inj ei0
  obtain ⟨i1, ei1⟩ := is_v gv5
  obtain rfl : w1 = (.int i1) := Option.some.inj ei1
  obtain ⟨i2, ei2⟩ := isL_v gv7
  obtain rfl : w2 = (.long i2) := Option.some.inj ei2
  obtain ⟨i3, ei3⟩ := isL_v gv9
  obtain rfl : w3 = (.long i3) := Option.some.inj ei3
  obtain ⟨i4, ei4⟩ := isL_v gv11
  obtain rfl : w4 = (.long i4) := Option.some.inj ei4
  obtain ⟨i5, ei5⟩ := is_v gv12
  obtain rfl : w5 = (.int i5) := Option.some.inj ei5
  have n5 := not_v (Cond.before_iff.mp (hsets _ (List.mem_of_getElem? (i := 2) rfl)))
  obtain ⟨g1, eg1⟩ := is_v (Cond.before_iff.mp (hsets _ (List.mem_of_getElem? (i := 1) rfl)))
  have S12 : Sta s s.heap "java/lang/String" "COMPACT_STRINGS" "Z" (.int g1) := Sta.start eg1 (Or.inl (hsets _ (List.mem_of_getElem? (i := 0) rfl)))
  have c17 : ¬ (g1 = (0 : Int32)) := gotF (Cond.eq_ints eg1 (Term.int_eval (0))) n5
  obtain ⟨n, o, h1, h2, h3, _, L, rfl, ⟨rfl, N⟩, hq⟩ := rm0 l s _ hw tables_1 i0 i1 i2 i3 i4 i5 g1 s.heap s.heap.size (Nat.le_refl _) S12 c17 (Old.start s) p e ha hc hk s m _ below hf ((Spec.applies_iff_loose hf).mp happ).1 ⟨rfl, State.Warmed39.refl s, rfl⟩ trivial
  refine ⟨n, _, h1, h2, h3, hpost _ _ _ _ _ _ ⟨Cond.after_iff.mpr rfl, Cond.after_iff.mpr (eq_i res_at (Term.int_eval (1)) rfl), trivial⟩ ⟨hq.1, hq.2.1, (hq.2.2.sift fun y hy => Or.inr (N y hy)).mono (by decide) (by decide)⟩⟩
theorem main_1_1 : Claimed_1_1 := comes_1 fun _ _ _ _ _ _ h hF => ⟨h.1, hF⟩
theorem main_1_2 : Claimed_1_2 := comes_1 fun _ _ _ _ _ _ h hF => ⟨h.2.1, hF⟩
end Jvm.Pilot.@@N@@
namespace Jvm.Pilot.@@N@@
open Jvm Jvm.ClassFile Sem Op Lib Jvm.Free Jvm.Stand Jvm.Pilot.@@N@@.Jvm.D
/-! MADE BY PROGRAM (witnessworld.py) out of the Statement's table words and the real class files: 21 classes; the members and pool entries that the words name. The judged class is class 1, her method 1. -/
namespace start1
open Jvm.ClassFile
def u (s : String) : CpInfo := .utf8 (stringToUtf16 s)
/-- a pool by its gaps: so many unusable entries, then the entry; so many at the end -/
def gap : Nat → List CpInfo → List CpInfo
  | 0, r => r
  | n + 1, r => .unusable :: gap n r
def poolList (es : List (Nat × CpInfo)) (last : Nat) : List CpInfo := es.foldr (fun e r => gap e.1 (e.2 :: r)) (gap last [])
def pool (es : List (Nat × CpInfo)) (last : Nat) : Array CpInfo := ⟨poolList es last⟩
def fileOf (pool : Array CpInfo) (this : Nat) (attrs : Array Attribute := #[]) (ms : Array MethodInfo := #[]) (fl : Nat := 33) (sup : Nat := 0) (ifs : Array Nat := #[]) (fds : Array FieldInfo := #[]) : ClassFile where
  minorVersion := 0
  majorVersion := 65
  constantPool := pool
  accessFlags := fl
  thisClass := this
  superClass := sup
  interfaces := ifs
  fields := fds
  methods := ms
  attributes := attrs
def plain (name : String) (sup : Option ClassId) : Class where
  name := name
  kind := .ordinary
  loader := none
  accessFlags := 33
  super := sup
  interfaces := #[]
  cf := none
  fields := #[]
  methods := #[]
  instanceTypes := #[]
  staticTypes := #[]
  resolved := #[]
  callSites := []
  init := .initialized
  statics := none
  mirror := none

def pool0 : Array CpInfo := pool [(5, u "<init>"), (0, u "()V"), (1, .class_ 10), (1, u "java/lang/Object")] 113

def k0c0 : Code := { maxStack := 0, maxLocals := 1, code := object_method_1_code, exceptionTable := #[], attributes := #[] }
def k0m0 : Method := { name := "<init>", desc := "()V", sig := { parameters := [], returnType := none }, accessFlags := 1, code := some k0c0 }
/-- java/lang/Object -/
def k0 : Class := { plain "java/lang/Object" none with
  accessFlags := 33
  interfaces := #[]
  cf := some (fileOf pool0 8 #[] #[{ accessFlags := 1, nameIndex := 5, descriptorIndex := 6, attributes := #[] }] 33 0 #[] #[])
  fields := #[]
  methods := #[k0m0]
  instanceTypes := #[]
  staticTypes := #[]
  resolved := Array.replicate 124 none
  statics := none }

def pool1 : Array CpInfo := pool [(2, .class_ 4), (1, u "java/lang/Object"), (0, u "<init>"), (0, u "()V"), (0, .class_ 8), (0, u "java/lang/String"), (0, .methodref 7 10), (0, .nameAndType 5 11), (0, u "([C)V"), (0, .class_ 13), (0, u "com/example/seqlint/seqlint/kafka/Transaction"), (0, .methodref 12 15), (0, .nameAndType 5 16), (0, u "(J)V"), (0, .long 18446744073709551615), (1, .methodref 12 20), (0, .nameAndType 21 22), (0, u "open"), (0, u "(SJJLjava/lang/String;JZ)V"), (0, .methodref 12 24), (0, .nameAndType 25 26), (0, u "isOpen"), (0, u "()Z"), (0, .methodref 12 28), (0, .nameAndType 29 30), (0, u "epoch"), (0, u "()S"), (0, .methodref 12 32), (0, .nameAndType 33 26), (0, u "hasEpoch"), (0, .methodref 12 35), (0, .nameAndType 36 37), (0, u "firstOffset"), (0, u "()J"), (0, .methodref 12 39), (0, .nameAndType 40 37), (0, u "position"), (0, .methodref 12 42), (0, .nameAndType 43 44), (0, u "file"), (0, u "()Ljava/lang/String;"), (0, .methodref 12 46), (0, .nameAndType 47 37), (0, u "firstTimestamp"), (0, .methodref 12 49), (0, .nameAndType 50 26), (0, u "isReported"), (0, .class_ 52), (0, u "com/example/seqlint/seqlint/kafka/TransactionOpenPinLaw"), (2, u "law"), (0, u "(JIJJJI)Z")] 5

def k1m0 : Method := { name := "<init>", desc := "()V", sig := { parameters := [], returnType := none }, accessFlags := 1, code := none }
def k1c1 : Code := { maxStack := 11, maxLocals := 19, code := code, exceptionTable := #[], attributes := #[] }
def k1m1 : Method := { name := "law", desc := "(JIJJJI)Z", sig := { parameters := [.long, .int, .long, .long, .long, .int], returnType := some .boolean }, accessFlags := 9, code := some k1c1 }
/-- com/example/seqlint/seqlint/kafka/TransactionOpenPinLaw -/
def k1 : Class := { plain "com/example/seqlint/seqlint/kafka/TransactionOpenPinLaw" (some 0) with
  accessFlags := 49
  interfaces := #[]
  cf := some (fileOf pool1 51 #[] #[{ accessFlags := 1, nameIndex := 5, descriptorIndex := 6, attributes := #[] }, { accessFlags := 9, nameIndex := 55, descriptorIndex := 56, attributes := #[] }] 49 2 #[] #[])
  fields := #[]
  methods := #[k1m0, k1m1]
  instanceTypes := #[]
  staticTypes := #[]
  resolved := Array.replicate 62 none
  statics := none }

def pool2 : Array CpInfo := pool [(1, .class_ 2), (0, u "java/io/Serializable"), (0, .class_ 4), (0, u "java/lang/Object")] 2

/-- java/io/Serializable -/
def k2 : Class := { plain "java/io/Serializable" (some 0) with
  accessFlags := 1537
  interfaces := #[]
  cf := some (fileOf pool2 1 #[] #[] 1537 3 #[] #[])
  fields := #[]
  methods := #[]
  instanceTypes := #[]
  staticTypes := #[]
  resolved := Array.replicate 7 none
  statics := none }

def pool3 : Array CpInfo := pool [(1, .class_ 2), (0, u "java/lang/Comparable"), (0, .class_ 4), (0, u "java/lang/Object")] 7

/-- java/lang/Comparable -/
def k3 : Class := { plain "java/lang/Comparable" (some 0) with
  accessFlags := 1537
  interfaces := #[]
  cf := some (fileOf pool3 1 #[] #[] 1537 3 #[] #[])
  fields := #[]
  methods := #[]
  instanceTypes := #[]
  staticTypes := #[]
  resolved := Array.replicate 12 none
  statics := none }

def pool4 : Array CpInfo := pool [(2, .class_ 4), (1, u "java/lang/CharSequence"), (42, .class_ 48), (0, u "java/lang/CharSequence$1CodePointIterator"), (10, .class_ 60), (0, u "java/lang/CharSequence$1CharIterator"), (5, .class_ 67), (0, u "java/lang/Object")] 63

/-- java/lang/CharSequence -/
def k4 : Class := { plain "java/lang/CharSequence" (some 0) with
  accessFlags := 1537
  interfaces := #[]
  cf := some (fileOf pool4 2 #[.nestMembers #[47, 59]] #[] 1537 66 #[] #[])
  fields := #[]
  methods := #[]
  instanceTypes := #[]
  staticTypes := #[]
  resolved := Array.replicate 131 none
  statics := none }

def pool5 : Array CpInfo := pool [(1, .class_ 2), (0, u "java/lang/constant/Constable"), (0, .class_ 4), (0, u "java/lang/Object")] 6

/-- java/lang/constant/Constable -/
def k5 : Class := { plain "java/lang/constant/Constable" (some 0) with
  accessFlags := 1537
  interfaces := #[]
  cf := some (fileOf pool5 1 #[] #[] 1537 3 #[] #[])
  fields := #[]
  methods := #[]
  instanceTypes := #[]
  staticTypes := #[]
  resolved := Array.replicate 11 none
  statics := none }

def pool6 : Array CpInfo := pool [(1, .class_ 2), (0, u "java/lang/constant/ConstantDesc"), (0, .class_ 4), (0, u "java/lang/Object")] 32

/-- java/lang/constant/ConstantDesc -/
def k6 : Class := { plain "java/lang/constant/ConstantDesc" (some 0) with
  accessFlags := 1537
  interfaces := #[]
  cf := some (fileOf pool6 1 #[] #[] 1537 3 #[] #[])
  fields := #[]
  methods := #[]
  instanceTypes := #[]
  staticTypes := #[]
  resolved := Array.replicate 37 none
  statics := none }

def pool7 : Array CpInfo := pool [(1, .methodref 2 3), (0, .class_ 4), (0, .nameAndType 5 6), (0, u "java/lang/Object"), (0, u "<init>"), (0, u "()V"), (2, .fieldref 10 11), (0, .class_ 12), (0, .nameAndType 13 14), (0, u "java/lang/String"), (0, u "value"), (0, u "[B"), (0, .fieldref 10 16), (0, .nameAndType 17 18), (0, u "coder"), (0, u "B"), (2, u "hash"), (0, u "I"), (2, u "hashIsZero"), (0, u "Z"), (0, .methodref 10 28), (0, .nameAndType 5 29), (0, u "([CIILjava/lang/Void;)V"), (8, .fieldref 10 39), (0, .nameAndType 40 26), (0, u "COMPACT_STRINGS"), (1, .class_ 44), (1, u "java/lang/StringUTF16"), (0, u "compress"), (1, .methodref 42 48), (0, .nameAndType 49 50), (0, u "coderFromArrayLen"), (0, u "([BI)B"), (126, .methodref 42 178), (0, .nameAndType 45 179), (0, u "([CII)[B"), (395, .class_ 576), (0, u "java/lang/CharSequence"), (22, u "CASE_INSENSITIVE_ORDER"), (0, u "Ljava/util/Comparator;"), (409, u "([C)V"), (90, u "serialPersistentFields"), (0, u "[Ljava/io/ObjectStreamField;"), (0, .class_ 1104), (0, u "java/lang/String$CaseInsensitiveComparator"), (1, .class_ 1107), (0, u "java/io/Serializable"), (0, .class_ 1109), (0, u "java/lang/Comparable"), (0, .class_ 1111), (0, u "java/lang/constant/Constable"), (0, .class_ 1113), (0, u "java/lang/constant/ConstantDesc"), (2, u "serialVersionUID"), (0, u "J"), (3, u "REPL"), (0, u "C"), (2, u "LATIN1"), (1, u "UTF16")] 323

def k7m0 : Method := { name := "<init>", desc := "()V", sig := { parameters := [], returnType := none }, accessFlags := 1, code := none }
def k7c1 : Code := { maxStack := 5, maxLocals := 2, code := jdk_42_method_3_code, exceptionTable := #[], attributes := #[] }
def k7m1 : Method := { name := "<init>", desc := "([C)V", sig := { parameters := [(.array .char)], returnType := none }, accessFlags := 1, code := some k7c1 }
def k7c2 : Code := { maxStack := 4, maxLocals := 6, code := jdk_42_method_149_code, exceptionTable := #[], attributes := #[] }
def k7m2 : Method := { name := "<init>", desc := "([CIILjava/lang/Void;)V", sig := { parameters := [(.array .char), .int, .int, (.object "java/lang/Void")], returnType := none }, accessFlags := 2, code := some k7c2 }
/-- java/lang/String -/
def k7 : Class := { plain "java/lang/String" (some 0) with
  accessFlags := 49
  interfaces := #[2, 3, 4, 5, 6]
  cf := some (fileOf pool7 10 #[.nestMembers #[1103]] #[{ accessFlags := 1, nameIndex := 5, descriptorIndex := 6, attributes := #[] }, { accessFlags := 1, nameIndex := 5, descriptorIndex := 1010, attributes := #[] }, { accessFlags := 2, nameIndex := 5, descriptorIndex := 29, attributes := #[] }] 49 2 #[1106, 1108, 575, 1110, 1112] #[{ accessFlags := 18, nameIndex := 13, descriptorIndex := 14, attributes := #[] }, { accessFlags := 18, nameIndex := 17, descriptorIndex := 18, attributes := #[] }, { accessFlags := 2, nameIndex := 21, descriptorIndex := 22, attributes := #[] }, { accessFlags := 2, nameIndex := 25, descriptorIndex := 26, attributes := #[] }, { accessFlags := 26, nameIndex := 1116, descriptorIndex := 1117, attributes := #[] }, { accessFlags := 24, nameIndex := 40, descriptorIndex := 26, attributes := #[] }, { accessFlags := 26, nameIndex := 1101, descriptorIndex := 1102, attributes := #[] }, { accessFlags := 26, nameIndex := 1121, descriptorIndex := 1122, attributes := #[] }, { accessFlags := 25, nameIndex := 599, descriptorIndex := 600, attributes := #[] }, { accessFlags := 24, nameIndex := 1125, descriptorIndex := 18, attributes := #[] }, { accessFlags := 24, nameIndex := 1127, descriptorIndex := 18, attributes := #[] }])
  fields := #[{ name := "value", type := (.array .byte), accessFlags := 18, slot := 0, constantValue := 0 }, { name := "coder", type := .byte, accessFlags := 18, slot := 1, constantValue := 0 }, { name := "hash", type := .int, accessFlags := 2, slot := 2, constantValue := 0 }, { name := "hashIsZero", type := .boolean, accessFlags := 2, slot := 3, constantValue := 0 }, { name := "serialVersionUID", type := .long, accessFlags := 26, slot := 0, constantValue := 0 }, { name := "COMPACT_STRINGS", type := .boolean, accessFlags := 24, slot := 1, constantValue := 0 }, { name := "serialPersistentFields", type := (.array (.object "java/io/ObjectStreamField")), accessFlags := 26, slot := 2, constantValue := 0 }, { name := "REPL", type := .char, accessFlags := 26, slot := 3, constantValue := 0 }, { name := "CASE_INSENSITIVE_ORDER", type := (.object "java/util/Comparator"), accessFlags := 25, slot := 4, constantValue := 0 }, { name := "LATIN1", type := .byte, accessFlags := 24, slot := 5, constantValue := 0 }, { name := "UTF16", type := .byte, accessFlags := 24, slot := 6, constantValue := 0 }]
  methods := #[k7m0, k7m1, k7m2]
  instanceTypes := #[(.array .byte), .byte, .int, .boolean]
  staticTypes := #[.long, .boolean, (.array (.object "java/io/ObjectStreamField")), .char, (.object "java/util/Comparator"), .byte, .byte]
  resolved := Array.replicate 1451 none
  statics := some 0 }

def pool8 : Array CpInfo := pool [(6, .class_ 8), (1, u "java/lang/Object"), (0, u "<init>"), (0, u "()V"), (1, .class_ 14), (1, u "java/lang/StringUTF16"), (31, u "$assertionsDisabled"), (0, u "Z"), (13, u "HI_BYTE_SHIFT"), (0, u "I"), (2, u "LO_BYTE_SHIFT"), (49, .methodref 12 116), (0, .nameAndType 117 118), (0, u "compress"), (0, u "([CI[BII)I"), (3, u "([CII)[B"), (138, u "coderFromArrayLen"), (0, u "([BI)B"), (106, .class_ 371), (1, u "java/lang/StringUTF16$LinesSpliterator"), (58, u "MAX_LENGTH"), (196, .class_ 628), (0, u "java/lang/StringUTF16$CodePointsSpliterator"), (0, .class_ 630), (0, u "java/lang/StringUTF16$CharsSpliterator")] 4

def k8m0 : Method := { name := "<init>", desc := "()V", sig := { parameters := [], returnType := none }, accessFlags := 0, code := none }
def k8c1 : Code := { maxStack := 2, maxLocals := 2, code := jdk_52_method_15_code, exceptionTable := #[], attributes := #[] }
def k8m1 : Method := { name := "coderFromArrayLen", desc := "([BI)B", sig := { parameters := [(.array .byte), .int], returnType := some .byte }, accessFlags := 8, code := some k8c1 }
def k8c2 : Code := { maxStack := 5, maxLocals := 6, code := jdk_52_method_16_code, exceptionTable := #[], attributes := #[] }
def k8m2 : Method := { name := "compress", desc := "([CII)[B", sig := { parameters := [(.array .char), .int, .int], returnType := some (.array .byte) }, accessFlags := 9, code := some k8c2 }
def k8c3 : Code := { maxStack := 3, maxLocals := 7, code := jdk_52_method_21_code, exceptionTable := #[], attributes := #[] }
def k8m3 : Method := { name := "compress", desc := "([CI[BII)I", sig := { parameters := [(.array .char), .int, (.array .byte), .int, .int], returnType := some .int }, accessFlags := 9, code := some k8c3 }
/-- java/lang/StringUTF16 -/
def k8 : Class := { plain "java/lang/StringUTF16" (some 0) with
  accessFlags := 48
  interfaces := #[]
  cf := some (fileOf pool8 12 #[.nestMembers #[627, 629, 369]] #[{ accessFlags := 0, nameIndex := 9, descriptorIndex := 10, attributes := #[] }, { accessFlags := 8, nameIndex := 261, descriptorIndex := 262, attributes := #[] }, { accessFlags := 9, nameIndex := 117, descriptorIndex := 122, attributes := #[] }, { accessFlags := 9, nameIndex := 117, descriptorIndex := 118, attributes := #[] }] 48 6 #[] #[{ accessFlags := 26, nameIndex := 61, descriptorIndex := 62, attributes := #[] }, { accessFlags := 26, nameIndex := 65, descriptorIndex := 62, attributes := #[] }, { accessFlags := 24, nameIndex := 430, descriptorIndex := 62, attributes := #[] }, { accessFlags := 4120, nameIndex := 46, descriptorIndex := 47, attributes := #[] }])
  fields := #[{ name := "HI_BYTE_SHIFT", type := .int, accessFlags := 26, slot := 0, constantValue := 0 }, { name := "LO_BYTE_SHIFT", type := .int, accessFlags := 26, slot := 1, constantValue := 0 }, { name := "MAX_LENGTH", type := .int, accessFlags := 24, slot := 2, constantValue := 0 }, { name := "$assertionsDisabled", type := .boolean, accessFlags := 4120, slot := 3, constantValue := 0 }]
  methods := #[k8m0, k8m1, k8m2, k8m3]
  instanceTypes := #[]
  staticTypes := #[.int, .int, .int, .boolean]
  resolved := Array.replicate 635 none
  statics := none }

def pool9 : Array CpInfo := pool [(1, .class_ 2), (0, u "com/example/seqlint/seqlint/kafka/ProducerTable$Entry"), (0, .class_ 4), (0, u "java/lang/Object"), (7, .class_ 13), (0, u "com/example/seqlint/seqlint/kafka/ProducerTable")] 2

/-- com/example/seqlint/seqlint/kafka/ProducerTable$Entry -/
def k9 : Class := { plain "com/example/seqlint/seqlint/kafka/ProducerTable$Entry" (some 0) with
  accessFlags := 1536
  interfaces := #[]
  cf := some (fileOf pool9 1 #[.nestHost 12] #[] 1536 3 #[] #[])
  fields := #[]
  methods := #[]
  instanceTypes := #[]
  staticTypes := #[]
  resolved := Array.replicate 16 none
  statics := none }

def pool10 : Array CpInfo := pool [(3, .methodref 4 5), (0, .class_ 6), (0, .nameAndType 7 8), (0, u "java/lang/Object"), (0, u "<init>"), (0, u "()V"), (0, .class_ 10), (0, u "com/example/seqlint/seqlint/kafka/Transaction"), (0, .integer 2147483648), (0, .fieldref 9 13), (0, .nameAndType 14 15), (0, u "epoch"), (0, u "I"), (2, .long 18446744073709551615), (1, .fieldref 9 21), (0, .nameAndType 22 23), (0, u "lastTimestamp"), (0, u "J"), (0, .fieldref 9 25), (0, .nameAndType 26 23), (0, u "producerId"), (0, .fieldref 9 28), (0, .nameAndType 29 30), (0, u "open"), (0, u "Z"), (0, .fieldref 9 32), (0, .nameAndType 33 23), (0, u "firstOffset"), (0, .fieldref 9 35), (0, .nameAndType 36 23), (0, u "position"), (0, .fieldref 9 38), (0, .nameAndType 39 40), (0, u "file"), (0, u "Ljava/lang/String;"), (0, .fieldref 9 42), (0, .nameAndType 43 23), (0, u "firstTimestamp"), (0, .fieldref 9 45), (0, .nameAndType 46 30), (0, u "reported"), (13, u "()S"), (3, u "()J"), (6, u "(SJJLjava/lang/String;JZ)V"), (2, u "hasEpoch"), (0, u "()Z"), (2, .class_ 79), (0, u "com/example/seqlint/seqlint/kafka/ProducerTable$Entry"), (0, u "ANY_EPOCH"), (0, u "S"), (2, u "UNKNOWN_EPOCH"), (0, u "(J)V"), (2, u "isOpen"), (1, u "()Ljava/lang/String;"), (0, u "isReported")] 22

def k10c0 : Code := { maxStack := 3, maxLocals := 3, code := prog_63_method_1_code, exceptionTable := #[], attributes := #[] }
def k10m0 : Method := { name := "<init>", desc := "(J)V", sig := { parameters := [.long], returnType := none }, accessFlags := 0, code := some k10c0 }
def k10c1 : Code := { maxStack := 1, maxLocals := 1, code := prog_63_method_4_code, exceptionTable := #[], attributes := #[] }
def k10m1 : Method := { name := "isOpen", desc := "()Z", sig := { parameters := [], returnType := some .boolean }, accessFlags := 0, code := some k10c1 }
def k10c2 : Code := { maxStack := 1, maxLocals := 1, code := prog_63_method_5_code, exceptionTable := #[], attributes := #[] }
def k10m2 : Method := { name := "epoch", desc := "()S", sig := { parameters := [], returnType := some .short }, accessFlags := 0, code := some k10c2 }
def k10c3 : Code := { maxStack := 2, maxLocals := 1, code := prog_63_method_6_code, exceptionTable := #[], attributes := #[] }
def k10m3 : Method := { name := "hasEpoch", desc := "()Z", sig := { parameters := [], returnType := some .boolean }, accessFlags := 0, code := some k10c3 }
def k10c4 : Code := { maxStack := 2, maxLocals := 1, code := prog_63_method_7_code, exceptionTable := #[], attributes := #[] }
def k10m4 : Method := { name := "firstOffset", desc := "()J", sig := { parameters := [], returnType := some .long }, accessFlags := 0, code := some k10c4 }
def k10c5 : Code := { maxStack := 2, maxLocals := 1, code := prog_63_method_8_code, exceptionTable := #[], attributes := #[] }
def k10m5 : Method := { name := "position", desc := "()J", sig := { parameters := [], returnType := some .long }, accessFlags := 0, code := some k10c5 }
def k10c6 : Code := { maxStack := 1, maxLocals := 1, code := prog_63_method_9_code, exceptionTable := #[], attributes := #[] }
def k10m6 : Method := { name := "file", desc := "()Ljava/lang/String;", sig := { parameters := [], returnType := some (.object "java/lang/String") }, accessFlags := 0, code := some k10c6 }
def k10c7 : Code := { maxStack := 2, maxLocals := 1, code := prog_63_method_10_code, exceptionTable := #[], attributes := #[] }
def k10m7 : Method := { name := "firstTimestamp", desc := "()J", sig := { parameters := [], returnType := some .long }, accessFlags := 0, code := some k10c7 }
def k10c8 : Code := { maxStack := 1, maxLocals := 1, code := prog_63_method_11_code, exceptionTable := #[], attributes := #[] }
def k10m8 : Method := { name := "isReported", desc := "()Z", sig := { parameters := [], returnType := some .boolean }, accessFlags := 0, code := some k10c8 }
def k10c9 : Code := { maxStack := 3, maxLocals := 10, code := prog_63_method_15_code, exceptionTable := #[], attributes := #[] }
def k10m9 : Method := { name := "open", desc := "(SJJLjava/lang/String;JZ)V", sig := { parameters := [.short, .long, .long, (.object "java/lang/String"), .long, .boolean], returnType := none }, accessFlags := 0, code := some k10c9 }
/-- com/example/seqlint/seqlint/kafka/Transaction -/
def k10 : Class := { plain "com/example/seqlint/seqlint/kafka/Transaction" (some 0) with
  accessFlags := 32
  interfaces := #[9]
  cf := some (fileOf pool10 9 #[] #[{ accessFlags := 0, nameIndex := 7, descriptorIndex := 85, attributes := #[] }, { accessFlags := 0, nameIndex := 88, descriptorIndex := 75, attributes := #[] }, { accessFlags := 0, nameIndex := 14, descriptorIndex := 60, attributes := #[] }, { accessFlags := 0, nameIndex := 74, descriptorIndex := 75, attributes := #[] }, { accessFlags := 0, nameIndex := 33, descriptorIndex := 64, attributes := #[] }, { accessFlags := 0, nameIndex := 36, descriptorIndex := 64, attributes := #[] }, { accessFlags := 0, nameIndex := 39, descriptorIndex := 90, attributes := #[] }, { accessFlags := 0, nameIndex := 43, descriptorIndex := 64, attributes := #[] }, { accessFlags := 0, nameIndex := 91, descriptorIndex := 75, attributes := #[] }, { accessFlags := 0, nameIndex := 29, descriptorIndex := 71, attributes := #[] }] 32 4 #[78] #[{ accessFlags := 24, nameIndex := 80, descriptorIndex := 81, attributes := #[] }, { accessFlags := 26, nameIndex := 84, descriptorIndex := 15, attributes := #[] }, { accessFlags := 18, nameIndex := 26, descriptorIndex := 23, attributes := #[] }, { accessFlags := 2, nameIndex := 29, descriptorIndex := 30, attributes := #[] }, { accessFlags := 2, nameIndex := 14, descriptorIndex := 15, attributes := #[] }, { accessFlags := 2, nameIndex := 33, descriptorIndex := 23, attributes := #[] }, { accessFlags := 2, nameIndex := 36, descriptorIndex := 23, attributes := #[] }, { accessFlags := 2, nameIndex := 39, descriptorIndex := 40, attributes := #[] }, { accessFlags := 2, nameIndex := 43, descriptorIndex := 23, attributes := #[] }, { accessFlags := 2, nameIndex := 46, descriptorIndex := 30, attributes := #[] }, { accessFlags := 2, nameIndex := 22, descriptorIndex := 23, attributes := #[] }])
  fields := #[{ name := "ANY_EPOCH", type := .short, accessFlags := 24, slot := 0, constantValue := 0 }, { name := "UNKNOWN_EPOCH", type := .int, accessFlags := 26, slot := 1, constantValue := 0 }, { name := "producerId", type := .long, accessFlags := 18, slot := 0, constantValue := 0 }, { name := "open", type := .boolean, accessFlags := 2, slot := 1, constantValue := 0 }, { name := "epoch", type := .int, accessFlags := 2, slot := 2, constantValue := 0 }, { name := "firstOffset", type := .long, accessFlags := 2, slot := 3, constantValue := 0 }, { name := "position", type := .long, accessFlags := 2, slot := 4, constantValue := 0 }, { name := "file", type := (.object "java/lang/String"), accessFlags := 2, slot := 5, constantValue := 0 }, { name := "firstTimestamp", type := .long, accessFlags := 2, slot := 6, constantValue := 0 }, { name := "reported", type := .boolean, accessFlags := 2, slot := 7, constantValue := 0 }, { name := "lastTimestamp", type := .long, accessFlags := 2, slot := 8, constantValue := 0 }]
  methods := #[k10m0, k10m1, k10m2, k10m3, k10m4, k10m5, k10m6, k10m7, k10m8, k10m9]
  instanceTypes := #[.long, .boolean, .int, .long, .long, (.object "java/lang/String"), .long, .boolean, .long]
  staticTypes := #[.short, .int]
  resolved := Array.replicate 114 none
  statics := none }

def pool11 : Array CpInfo := pool [(4, .class_ 6), (1, u "java/lang/Object"), (0, u "<init>"), (0, u "()V"), (5, .class_ 16), (1, u "java/lang/StringLatin1"), (104, u "$assertionsDisabled"), (0, u "Z"), (98, .class_ 223), (1, u "java/lang/StringLatin1$LinesSpliterator"), (166, .class_ 391), (0, u "java/lang/StringLatin1$CharsSpliterator")] 3

def k11m0 : Method := { name := "<init>", desc := "()V", sig := { parameters := [], returnType := none }, accessFlags := 0, code := none }
/-- java/lang/StringLatin1 -/
def k11 : Class := { plain "java/lang/StringLatin1" (some 0) with
  accessFlags := 48
  interfaces := #[]
  cf := some (fileOf pool11 14 #[.nestMembers #[390, 221]] #[{ accessFlags := 0, nameIndex := 7, descriptorIndex := 8, attributes := #[] }] 48 4 #[] #[{ accessFlags := 4120, nameIndex := 121, descriptorIndex := 122, attributes := #[] }])
  fields := #[{ name := "$assertionsDisabled", type := .boolean, accessFlags := 4120, slot := 0, constantValue := 0 }]
  methods := #[k11m0]
  instanceTypes := #[]
  staticTypes := #[.boolean]
  resolved := Array.replicate 395 none
  statics := none }

def pool12 : Array CpInfo := pool [(2, .class_ 4), (1, u "java/lang/Object"), (0, u "<init>"), (0, u "()V"), (17, .class_ 26), (1, u "jdk/internal/util/Preconditions"), (28, .class_ 56), (0, u "jdk/internal/util/Preconditions$4"), (57, .class_ 115), (0, u "jdk/internal/util/Preconditions$1"), (7, u "SIOOBE_FORMATTER"), (0, u "Ljava/util/function/BiFunction;"), (0, .class_ 126), (0, u "jdk/internal/util/Preconditions$2"), (3, u "AIOOBE_FORMATTER"), (0, .class_ 132), (0, u "jdk/internal/util/Preconditions$3"), (3, u "IOOBE_FORMATTER")] 57

def k12m0 : Method := { name := "<init>", desc := "()V", sig := { parameters := [], returnType := none }, accessFlags := 1, code := none }
/-- jdk/internal/util/Preconditions -/
def k12 : Class := { plain "jdk/internal/util/Preconditions" (some 0) with
  accessFlags := 33
  interfaces := #[]
  cf := some (fileOf pool12 24 #[.nestMembers #[55, 131, 125, 114]] #[{ accessFlags := 1, nameIndex := 5, descriptorIndex := 6, attributes := #[] }] 33 2 #[] #[{ accessFlags := 25, nameIndex := 123, descriptorIndex := 124, attributes := #[] }, { accessFlags := 25, nameIndex := 130, descriptorIndex := 124, attributes := #[] }, { accessFlags := 25, nameIndex := 136, descriptorIndex := 124, attributes := #[] }])
  fields := #[{ name := "SIOOBE_FORMATTER", type := (.object "java/util/function/BiFunction"), accessFlags := 25, slot := 0, constantValue := 0 }, { name := "AIOOBE_FORMATTER", type := (.object "java/util/function/BiFunction"), accessFlags := 25, slot := 1, constantValue := 0 }, { name := "IOOBE_FORMATTER", type := (.object "java/util/function/BiFunction"), accessFlags := 25, slot := 2, constantValue := 0 }]
  methods := #[k12m0]
  instanceTypes := #[]
  staticTypes := #[(.object "java/util/function/BiFunction"), (.object "java/util/function/BiFunction"), (.object "java/util/function/BiFunction")]
  resolved := Array.replicate 194 none
  statics := some 1 }

def pool13 : Array CpInfo := pool [(9, u "<init>"), (6, .class_ 18), (1, u "java/lang/Object"), (0, u "()V"), (1, .class_ 23), (1, u "jdk/internal/util/ArraysSupport"), (0, u "LOG2_ARRAY_LONG_INDEX_SCALE"), (0, u "I"), (2, u "U"), (0, u "Ljdk/internal/misc/Unsafe;"), (8, u "BIG_ENDIAN"), (0, u "Z"), (8, u "LOG2_BYTE_BIT_SIZE"), (4, u "LOG2_ARRAY_INT_INDEX_SCALE"), (54, u "JLA"), (0, u "Ljdk/internal/access/JavaLangAccess;"), (11, u "LOG2_ARRAY_BOOLEAN_INDEX_SCALE"), (9, u "LOG2_ARRAY_BYTE_INDEX_SCALE"), (5, u "LOG2_ARRAY_CHAR_INDEX_SCALE"), (5, u "LOG2_ARRAY_SHORT_INDEX_SCALE"), (18, u "LOG2_ARRAY_FLOAT_INDEX_SCALE"), (24, u "LOG2_ARRAY_DOUBLE_INDEX_SCALE"), (89, u "T_BOOLEAN"), (2, u "T_CHAR"), (1, u "T_FLOAT"), (1, u "T_DOUBLE"), (1, u "T_BYTE"), (1, u "T_SHORT"), (1, u "T_INT"), (1, u "T_LONG"), (1, u "SOFT_MAX_ARRAY_LENGTH")] 83

def k13m0 : Method := { name := "<init>", desc := "()V", sig := { parameters := [], returnType := none }, accessFlags := 2, code := none }
/-- jdk/internal/util/ArraysSupport -/
def k13 : Class := { plain "jdk/internal/util/ArraysSupport" (some 0) with
  accessFlags := 33
  interfaces := #[]
  cf := some (fileOf pool13 21 #[] #[{ accessFlags := 2, nameIndex := 9, descriptorIndex := 19, attributes := #[] }] 33 16 #[] #[{ accessFlags := 24, nameIndex := 28, descriptorIndex := 29, attributes := #[] }, { accessFlags := 26, nameIndex := 38, descriptorIndex := 39, attributes := #[] }, { accessFlags := 25, nameIndex := 121, descriptorIndex := 25, attributes := #[] }, { accessFlags := 25, nameIndex := 131, descriptorIndex := 25, attributes := #[] }, { accessFlags := 25, nameIndex := 137, descriptorIndex := 25, attributes := #[] }, { accessFlags := 25, nameIndex := 143, descriptorIndex := 25, attributes := #[] }, { accessFlags := 25, nameIndex := 53, descriptorIndex := 25, attributes := #[] }, { accessFlags := 25, nameIndex := 24, descriptorIndex := 25, attributes := #[] }, { accessFlags := 25, nameIndex := 162, descriptorIndex := 25, attributes := #[] }, { accessFlags := 25, nameIndex := 187, descriptorIndex := 25, attributes := #[] }, { accessFlags := 26, nameIndex := 48, descriptorIndex := 25, attributes := #[] }, { accessFlags := 25, nameIndex := 277, descriptorIndex := 25, attributes := #[] }, { accessFlags := 25, nameIndex := 280, descriptorIndex := 25, attributes := #[] }, { accessFlags := 25, nameIndex := 282, descriptorIndex := 25, attributes := #[] }, { accessFlags := 25, nameIndex := 284, descriptorIndex := 25, attributes := #[] }, { accessFlags := 25, nameIndex := 286, descriptorIndex := 25, attributes := #[] }, { accessFlags := 25, nameIndex := 288, descriptorIndex := 25, attributes := #[] }, { accessFlags := 25, nameIndex := 290, descriptorIndex := 25, attributes := #[] }, { accessFlags := 25, nameIndex := 292, descriptorIndex := 25, attributes := #[] }, { accessFlags := 26, nameIndex := 108, descriptorIndex := 109, attributes := #[] }, { accessFlags := 25, nameIndex := 294, descriptorIndex := 25, attributes := #[] }])
  fields := #[{ name := "U", type := (.object "jdk/internal/misc/Unsafe"), accessFlags := 24, slot := 0, constantValue := 0 }, { name := "BIG_ENDIAN", type := .boolean, accessFlags := 26, slot := 1, constantValue := 0 }, { name := "LOG2_ARRAY_BOOLEAN_INDEX_SCALE", type := .int, accessFlags := 25, slot := 2, constantValue := 0 }, { name := "LOG2_ARRAY_BYTE_INDEX_SCALE", type := .int, accessFlags := 25, slot := 3, constantValue := 0 }, { name := "LOG2_ARRAY_CHAR_INDEX_SCALE", type := .int, accessFlags := 25, slot := 4, constantValue := 0 }, { name := "LOG2_ARRAY_SHORT_INDEX_SCALE", type := .int, accessFlags := 25, slot := 5, constantValue := 0 }, { name := "LOG2_ARRAY_INT_INDEX_SCALE", type := .int, accessFlags := 25, slot := 6, constantValue := 0 }, { name := "LOG2_ARRAY_LONG_INDEX_SCALE", type := .int, accessFlags := 25, slot := 7, constantValue := 0 }, { name := "LOG2_ARRAY_FLOAT_INDEX_SCALE", type := .int, accessFlags := 25, slot := 8, constantValue := 0 }, { name := "LOG2_ARRAY_DOUBLE_INDEX_SCALE", type := .int, accessFlags := 25, slot := 9, constantValue := 0 }, { name := "LOG2_BYTE_BIT_SIZE", type := .int, accessFlags := 26, slot := 10, constantValue := 0 }, { name := "T_BOOLEAN", type := .int, accessFlags := 25, slot := 11, constantValue := 0 }, { name := "T_CHAR", type := .int, accessFlags := 25, slot := 12, constantValue := 0 }, { name := "T_FLOAT", type := .int, accessFlags := 25, slot := 13, constantValue := 0 }, { name := "T_DOUBLE", type := .int, accessFlags := 25, slot := 14, constantValue := 0 }, { name := "T_BYTE", type := .int, accessFlags := 25, slot := 15, constantValue := 0 }, { name := "T_SHORT", type := .int, accessFlags := 25, slot := 16, constantValue := 0 }, { name := "T_INT", type := .int, accessFlags := 25, slot := 17, constantValue := 0 }, { name := "T_LONG", type := .int, accessFlags := 25, slot := 18, constantValue := 0 }, { name := "JLA", type := (.object "jdk/internal/access/JavaLangAccess"), accessFlags := 26, slot := 19, constantValue := 0 }, { name := "SOFT_MAX_ARRAY_LENGTH", type := .int, accessFlags := 25, slot := 20, constantValue := 0 }]
  methods := #[k13m0]
  instanceTypes := #[]
  staticTypes := #[(.object "jdk/internal/misc/Unsafe"), .boolean, .int, .int, .int, .int, .int, .int, .int, .int, .int, .int, .int, .int, .int, .int, .int, .int, .int, (.object "jdk/internal/access/JavaLangAccess"), .int]
  resolved := Array.replicate 378 none
  statics := none }

def pool14 : Array CpInfo := pool [(1, u "java/lang/Cloneable"), (0, .class_ 1), (0, u "java/lang/Object"), (0, .class_ 3)] 3

/-- java/lang/Cloneable -/
def k14 : Class := { plain "java/lang/Cloneable" (some 0) with
  accessFlags := 1537
  interfaces := #[]
  cf := some (fileOf pool14 2 #[] #[] 1537 4 #[] #[])
  fields := #[]
  methods := #[]
  instanceTypes := #[]
  staticTypes := #[]
  resolved := Array.replicate 8 none
  statics := none }

/-- the primitive byte -/
def k15 : Class := { plain "byte" none with kind := .primitive 'B', accessFlags := 0x411 }
/-- [B -/
def k16 : Class := { plain "[B" (some 0) with kind := .array 15 .byte, interfaces := #[14, 2], accessFlags := 1041 }

/-- the primitive char -/
def k17 : Class := { plain "char" none with kind := .primitive 'C', accessFlags := 0x411 }
/-- [C -/
def k18 : Class := { plain "[C" (some 0) with kind := .array 17 .char, interfaces := #[14, 2], accessFlags := 1041 }

/-- the primitive int -/
def k19 : Class := { plain "int" none with kind := .primitive 'I', accessFlags := 0x411 }
/-- [I -/
def k20 : Class := { plain "[I" (some 0) with kind := .array 19 .int, interfaces := #[14, 2], accessFlags := 1041 }

def heap : Heap := #[{ cls := 7, slots := #[.long 0, .int 1, .null, .int 0, .null, .int 0, .int 0], vm := .statics 7 },
  { cls := 12, slots := #[.null, .null, .null], vm := .statics 12 }]
def classes : Array Class := #[k0, k1, k2, k3, k4, k5, k6, k7, k8, k9, k10, k11, k12, k13, k14, k15, k16, k17, k18, k19, k20]
def interned : List (Array UInt16 × Addr) := []
def slotsUsed : Nat := 10
def theMethod : MethodId := ⟨1, 1⟩
def args0 : Array Value := #[.long 5, .int 3, .long 5, .long 5, .long 5, .int 7]
def aboutOver (below : List Frame) : State where
  vm := { classes := classes, interned := interned.toArray }
  heap := heap
  slotsUsed := slotsUsed
  threads := #[{ frames := .invoking theMethod args0 :: below }]
def below0 : List Frame := [.native { method := ⟨0, 0⟩, args := #[] }]
def about1 : State := aboutOver below0
def p0 : Program := .bare "" "" ""
def e0 : Env := launch0.env 0 0 0
theorem w_frames : about1.frames = Frame.invoking theMethod args0 :: below0 := rfl
set_option maxRecDepth 65536 in
theorem w_args : argsFit about1.vm theMethod args0 = true := by decide +kernel
set_option maxRecDepth 65536 in
theorem w_heap : heapFits about1 = true := by decide +kernel
set_option maxRecDepth 65536 in
theorem w_runnable : about1.curStatus? = some .runnable := by decide +kernel
set_option maxRecDepth 65536 in
theorem w_alone : about1.alone = true := by decide +kernel
set_option maxRecDepth 65536 in
theorem w_named : about1.methodNamed? x = some theMethod := by decide +kernel
set_option maxRecDepth 65536 in
theorem w_hears : about1.hears theMethod below0 = true := by decide +kernel
set_option maxRecDepth 65536 in
theorem w_ripe : about1.ripe theMethod args0 below0 = true := by decide +kernel
theorem w_running : about1.status = .running := rfl
set_option maxRecDepth 65536 in
theorem w_room : about1.hasRoom e0.platform room_1 = true :=
  launch0.hasRoom_least _ room_1 (by decide +kernel) (by decide +kernel) (by decide +kernel) (by decide +kernel) (by decide +kernel) (by decide +kernel)
theorem allAtoms_all (ts : List Jvm.Cond) (a : Array Jvm.Value) (st : Jvm.State) : (allAtoms ts).before a st = ts.all (fun c => c.before a st) := by
  induction ts with
  | nil => rfl
  | cons c t ih =>
    show (Jvm.Cond.and c (allAtoms t)).before a st = _
    rw [Jvm.Cond.before_and, ih, List.all_cons]
def words1 : List Jvm.Cond := Jvm.Cond.code x code maxLocals ret :: tables_1
/-- a 'code' word, met by the world's own term for the bytes: nothing is compared byte by byte -/
theorem code_word {y : MethodName} {bytes : ByteArray} {mx : Nat} {rt : Option FieldType} {a : Array Value} {s : State} {m : MethodId} {meth : Method} {c : Code} (h1 : s.methodNamed? y = some m) (h2 : s.vm.method? m = some meth) (h3 : meth.code = some c) (h4 : c.code = bytes)
    (h5 : (c.maxLocals == mx && c.exceptionTable.isEmpty && decide (c.maxStack ≤ mostOperands) && decide (meth.sig.returnType = rt) && !meth.locks && decide (parseMethodDescriptor y.desc = some meth.sig)) = true) : (Jvm.Cond.code y bytes mx rt).before a s = true := by
  simp only [Bool.and_eq_true, beq_iff_eq, Bool.not_eq_true', decide_eq_true_eq] at h5
  obtain ⟨⟨⟨⟨⟨g1, g2⟩, g3⟩, g4⟩, g5⟩, g6⟩ := h5
  simp [Cond.before, Cond.holds, Cond.value, h1, h2, h3, h4, g1, g2, g3, g4, g5, g6]
def isCode : Jvm.Cond → Bool
  | .code _ _ _ _ => true
  | _ => false
theorem all_split {L : List Jvm.Cond} {P : Jvm.Cond → Bool} (h1 : L.all (fun c => isCode c || P c) = true) (h2 : ∀ c ∈ L.filter isCode, P c = true) : L.all P = true := by
  refine List.all_eq_true.mpr fun c hc => ?_
  have h := List.all_eq_true.mp h1 c hc
  rcases Bool.eq_false_or_eq_true (isCode c) with hi | hi
  · exact h2 c (List.mem_filter.mpr ⟨hc, hi⟩)
  · simpa [hi] using h
set_option maxRecDepth 65536 in
theorem w_c0 : (Jvm.Cond.code x code maxLocals ret).before args0 about1 = true := code_word (m := ⟨1, 1⟩) (meth := k1m1) (c := k1c1) (by decide +kernel) rfl rfl rfl (by decide +kernel)
set_option maxRecDepth 65536 in
theorem w_c1 : (Jvm.Cond.code ({ cls := "java/lang/String", name := "<init>", desc := "([C)V" } : Jvm.MethodName) jdk_42_method_3_code (2 : Nat) (Option.none : Option Jvm.ClassFile.FieldType)).before args0 about1 = true := code_word (m := ⟨7, 1⟩) (meth := k7m1) (c := k7c1) (by decide +kernel) rfl rfl rfl (by decide +kernel)
set_option maxRecDepth 65536 in
theorem w_c2 : (Jvm.Cond.code ({ cls := "java/lang/String", name := "<init>", desc := "([CIILjava/lang/Void;)V" } : Jvm.MethodName) jdk_42_method_149_code (6 : Nat) (Option.none : Option Jvm.ClassFile.FieldType)).before args0 about1 = true := code_word (m := ⟨7, 2⟩) (meth := k7m2) (c := k7c2) (by decide +kernel) rfl rfl rfl (by decide +kernel)
set_option maxRecDepth 65536 in
theorem w_c3 : (Jvm.Cond.code ({ cls := "java/lang/Object", name := "<init>", desc := "()V" } : Jvm.MethodName) object_method_1_code (1 : Nat) (Option.none : Option Jvm.ClassFile.FieldType)).before args0 about1 = true := code_word (m := ⟨0, 0⟩) (meth := k0m0) (c := k0c0) (by decide +kernel) rfl rfl rfl (by decide +kernel)
set_option maxRecDepth 65536 in
theorem w_c4 : (Jvm.Cond.code ({ cls := "java/lang/StringUTF16", name := "compress", desc := "([CII)[B" } : Jvm.MethodName) jdk_52_method_16_code (6 : Nat) (Option.some (Jvm.ClassFile.FieldType.array Jvm.ClassFile.FieldType.byte))).before args0 about1 = true := code_word (m := ⟨8, 2⟩) (meth := k8m2) (c := k8c2) (by decide +kernel) rfl rfl rfl (by decide +kernel)
set_option maxRecDepth 65536 in
theorem w_c5 : (Jvm.Cond.code ({ cls := "java/lang/StringUTF16", name := "compress", desc := "([CI[BII)I" } : Jvm.MethodName) jdk_52_method_21_code (7 : Nat) (Option.some Jvm.ClassFile.FieldType.int)).before args0 about1 = true := code_word (m := ⟨8, 3⟩) (meth := k8m3) (c := k8c3) (by decide +kernel) rfl rfl rfl (by decide +kernel)
set_option maxRecDepth 65536 in
theorem w_c6 : (Jvm.Cond.code ({ cls := "java/lang/StringUTF16", name := "coderFromArrayLen", desc := "([BI)B" } : Jvm.MethodName) jdk_52_method_15_code (2 : Nat) (Option.some Jvm.ClassFile.FieldType.byte)).before args0 about1 = true := code_word (m := ⟨8, 1⟩) (meth := k8m1) (c := k8c1) (by decide +kernel) rfl rfl rfl (by decide +kernel)
set_option maxRecDepth 65536 in
theorem w_c7 : (Jvm.Cond.code ({ cls := "com/example/seqlint/seqlint/kafka/Transaction", name := "<init>", desc := "(J)V" } : Jvm.MethodName) prog_63_method_1_code (3 : Nat) (Option.none : Option Jvm.ClassFile.FieldType)).before args0 about1 = true := code_word (m := ⟨10, 0⟩) (meth := k10m0) (c := k10c0) (by decide +kernel) rfl rfl rfl (by decide +kernel)
set_option maxRecDepth 65536 in
theorem w_c8 : (Jvm.Cond.code ({ cls := "com/example/seqlint/seqlint/kafka/Transaction", name := "open", desc := "(SJJLjava/lang/String;JZ)V" } : Jvm.MethodName) prog_63_method_15_code (10 : Nat) (Option.none : Option Jvm.ClassFile.FieldType)).before args0 about1 = true := code_word (m := ⟨10, 9⟩) (meth := k10m9) (c := k10c9) (by decide +kernel) rfl rfl rfl (by decide +kernel)
set_option maxRecDepth 65536 in
theorem w_c9 : (Jvm.Cond.code ({ cls := "com/example/seqlint/seqlint/kafka/Transaction", name := "isOpen", desc := "()Z" } : Jvm.MethodName) prog_63_method_4_code (1 : Nat) (Option.some Jvm.ClassFile.FieldType.boolean)).before args0 about1 = true := code_word (m := ⟨10, 1⟩) (meth := k10m1) (c := k10c1) (by decide +kernel) rfl rfl rfl (by decide +kernel)
set_option maxRecDepth 65536 in
theorem w_c10 : (Jvm.Cond.code ({ cls := "com/example/seqlint/seqlint/kafka/Transaction", name := "epoch", desc := "()S" } : Jvm.MethodName) prog_63_method_5_code (1 : Nat) (Option.some Jvm.ClassFile.FieldType.short)).before args0 about1 = true := code_word (m := ⟨10, 2⟩) (meth := k10m2) (c := k10c2) (by decide +kernel) rfl rfl rfl (by decide +kernel)
set_option maxRecDepth 65536 in
theorem w_c11 : (Jvm.Cond.code ({ cls := "com/example/seqlint/seqlint/kafka/Transaction", name := "hasEpoch", desc := "()Z" } : Jvm.MethodName) prog_63_method_6_code (1 : Nat) (Option.some Jvm.ClassFile.FieldType.boolean)).before args0 about1 = true := code_word (m := ⟨10, 3⟩) (meth := k10m3) (c := k10c3) (by decide +kernel) rfl rfl rfl (by decide +kernel)
set_option maxRecDepth 65536 in
theorem w_c12 : (Jvm.Cond.code ({ cls := "com/example/seqlint/seqlint/kafka/Transaction", name := "firstOffset", desc := "()J" } : Jvm.MethodName) prog_63_method_7_code (1 : Nat) (Option.some Jvm.ClassFile.FieldType.long)).before args0 about1 = true := code_word (m := ⟨10, 4⟩) (meth := k10m4) (c := k10c4) (by decide +kernel) rfl rfl rfl (by decide +kernel)
set_option maxRecDepth 65536 in
theorem w_c13 : (Jvm.Cond.code ({ cls := "com/example/seqlint/seqlint/kafka/Transaction", name := "position", desc := "()J" } : Jvm.MethodName) prog_63_method_8_code (1 : Nat) (Option.some Jvm.ClassFile.FieldType.long)).before args0 about1 = true := code_word (m := ⟨10, 5⟩) (meth := k10m5) (c := k10c5) (by decide +kernel) rfl rfl rfl (by decide +kernel)
set_option maxRecDepth 65536 in
theorem w_c14 : (Jvm.Cond.code ({ cls := "com/example/seqlint/seqlint/kafka/Transaction", name := "file", desc := "()Ljava/lang/String;" } : Jvm.MethodName) prog_63_method_9_code (1 : Nat) (Option.some (Jvm.ClassFile.FieldType.object "java/lang/String"))).before args0 about1 = true := code_word (m := ⟨10, 6⟩) (meth := k10m6) (c := k10c6) (by decide +kernel) rfl rfl rfl (by decide +kernel)
set_option maxRecDepth 65536 in
theorem w_c15 : (Jvm.Cond.code ({ cls := "com/example/seqlint/seqlint/kafka/Transaction", name := "firstTimestamp", desc := "()J" } : Jvm.MethodName) prog_63_method_10_code (1 : Nat) (Option.some Jvm.ClassFile.FieldType.long)).before args0 about1 = true := code_word (m := ⟨10, 7⟩) (meth := k10m7) (c := k10c7) (by decide +kernel) rfl rfl rfl (by decide +kernel)
set_option maxRecDepth 65536 in
theorem w_c16 : (Jvm.Cond.code ({ cls := "com/example/seqlint/seqlint/kafka/Transaction", name := "isReported", desc := "()Z" } : Jvm.MethodName) prog_63_method_11_code (1 : Nat) (Option.some Jvm.ClassFile.FieldType.boolean)).before args0 about1 = true := code_word (m := ⟨10, 8⟩) (meth := k10m8) (c := k10c8) (by decide +kernel) rfl rfl rfl (by decide +kernel)
def codes1 : List Jvm.Cond := [Jvm.Cond.code x code maxLocals ret, Jvm.Cond.code ({ cls := "java/lang/String", name := "<init>", desc := "([C)V" } : Jvm.MethodName) jdk_42_method_3_code (2 : Nat) (Option.none : Option Jvm.ClassFile.FieldType), Jvm.Cond.code ({ cls := "java/lang/String", name := "<init>", desc := "([CIILjava/lang/Void;)V" } : Jvm.MethodName) jdk_42_method_149_code (6 : Nat) (Option.none : Option Jvm.ClassFile.FieldType), Jvm.Cond.code ({ cls := "java/lang/Object", name := "<init>", desc := "()V" } : Jvm.MethodName) object_method_1_code (1 : Nat) (Option.none : Option Jvm.ClassFile.FieldType), Jvm.Cond.code ({ cls := "java/lang/StringUTF16", name := "compress", desc := "([CII)[B" } : Jvm.MethodName) jdk_52_method_16_code (6 : Nat) (Option.some (Jvm.ClassFile.FieldType.array Jvm.ClassFile.FieldType.byte)), Jvm.Cond.code ({ cls := "java/lang/StringUTF16", name := "compress", desc := "([CI[BII)I" } : Jvm.MethodName) jdk_52_method_21_code (7 : Nat) (Option.some Jvm.ClassFile.FieldType.int), Jvm.Cond.code ({ cls := "java/lang/StringUTF16", name := "coderFromArrayLen", desc := "([BI)B" } : Jvm.MethodName) jdk_52_method_15_code (2 : Nat) (Option.some Jvm.ClassFile.FieldType.byte), Jvm.Cond.code ({ cls := "com/example/seqlint/seqlint/kafka/Transaction", name := "<init>", desc := "(J)V" } : Jvm.MethodName) prog_63_method_1_code (3 : Nat) (Option.none : Option Jvm.ClassFile.FieldType), Jvm.Cond.code ({ cls := "com/example/seqlint/seqlint/kafka/Transaction", name := "open", desc := "(SJJLjava/lang/String;JZ)V" } : Jvm.MethodName) prog_63_method_15_code (10 : Nat) (Option.none : Option Jvm.ClassFile.FieldType), Jvm.Cond.code ({ cls := "com/example/seqlint/seqlint/kafka/Transaction", name := "isOpen", desc := "()Z" } : Jvm.MethodName) prog_63_method_4_code (1 : Nat) (Option.some Jvm.ClassFile.FieldType.boolean), Jvm.Cond.code ({ cls := "com/example/seqlint/seqlint/kafka/Transaction", name := "epoch", desc := "()S" } : Jvm.MethodName) prog_63_method_5_code (1 : Nat) (Option.some Jvm.ClassFile.FieldType.short), Jvm.Cond.code ({ cls := "com/example/seqlint/seqlint/kafka/Transaction", name := "hasEpoch", desc := "()Z" } : Jvm.MethodName) prog_63_method_6_code (1 : Nat) (Option.some Jvm.ClassFile.FieldType.boolean), Jvm.Cond.code ({ cls := "com/example/seqlint/seqlint/kafka/Transaction", name := "firstOffset", desc := "()J" } : Jvm.MethodName) prog_63_method_7_code (1 : Nat) (Option.some Jvm.ClassFile.FieldType.long), Jvm.Cond.code ({ cls := "com/example/seqlint/seqlint/kafka/Transaction", name := "position", desc := "()J" } : Jvm.MethodName) prog_63_method_8_code (1 : Nat) (Option.some Jvm.ClassFile.FieldType.long), Jvm.Cond.code ({ cls := "com/example/seqlint/seqlint/kafka/Transaction", name := "file", desc := "()Ljava/lang/String;" } : Jvm.MethodName) prog_63_method_9_code (1 : Nat) (Option.some (Jvm.ClassFile.FieldType.object "java/lang/String")), Jvm.Cond.code ({ cls := "com/example/seqlint/seqlint/kafka/Transaction", name := "firstTimestamp", desc := "()J" } : Jvm.MethodName) prog_63_method_10_code (1 : Nat) (Option.some Jvm.ClassFile.FieldType.long), Jvm.Cond.code ({ cls := "com/example/seqlint/seqlint/kafka/Transaction", name := "isReported", desc := "()Z" } : Jvm.MethodName) prog_63_method_11_code (1 : Nat) (Option.some Jvm.ClassFile.FieldType.boolean)]
set_option maxRecDepth 65536 in
theorem codes_eq : words1.filter isCode = codes1 := rfl
theorem w_codes : ∀ c ∈ words1.filter isCode, c.before args0 about1 = true := by
  rw [codes_eq]
  intro c hc
  simp only [codes1, List.mem_cons, List.not_mem_nil, or_false] at hc
  rcases hc with rfl | rfl | rfl | rfl | rfl | rfl | rfl | rfl | rfl | rfl | rfl | rfl | rfl | rfl | rfl | rfl | rfl
  · exact w_c0
  · exact w_c1
  · exact w_c2
  · exact w_c3
  · exact w_c4
  · exact w_c5
  · exact w_c6
  · exact w_c7
  · exact w_c8
  · exact w_c9
  · exact w_c10
  · exact w_c11
  · exact w_c12
  · exact w_c13
  · exact w_c14
  · exact w_c15
  · exact w_c16
set_option maxRecDepth 65536 in
theorem w_t1 : (words1.take 24).all (fun c => isCode c || c.before args0 about1) = true := by decide +kernel
set_option maxRecDepth 65536 in
theorem w_t2 : ((words1.drop 24).take 24).all (fun c => isCode c || c.before args0 about1) = true := by decide +kernel
set_option maxRecDepth 65536 in
theorem w_t3 : (((words1.drop 24).drop 24).take 24).all (fun c => isCode c || c.before args0 about1) = true := by decide +kernel
set_option maxRecDepth 65536 in
theorem w_t4 : ((((words1.drop 24).drop 24).drop 24).take 24).all (fun c => isCode c || c.before args0 about1) = true := by decide +kernel
set_option maxRecDepth 65536 in
theorem w_t5 : ((((words1.drop 24).drop 24).drop 24).drop 24).all (fun c => isCode c || c.before args0 about1) = true := by decide +kernel
theorem w_tables : (allAtoms (Jvm.Cond.code x code maxLocals ret :: tables_1)).before args0 about1 = true := by
  rw [allAtoms_all]
  show words1.all (fun c => c.before args0 about1) = true
  refine all_split ?_ w_codes
  rw [← List.take_append_drop 24 words1, List.all_append, w_t1, ← List.take_append_drop 24 (words1.drop 24), List.all_append, w_t2, ← List.take_append_drop 24 ((words1.drop 24).drop 24), List.all_append, w_t3, ← List.take_append_drop 24 (((words1.drop 24).drop 24).drop 24), List.all_append, w_t4, w_t5]
  rfl
set_option maxRecDepth 65536 in
theorem w_rest : rest_1_c.before args0 about1 = true := by decide +kernel
set_option maxRecDepth 65536 in
theorem w_case : (Jvm.Cond.and given_1 narrow_1).before args0 about1 = true := by decide +kernel
theorem w_applies : (headSpec (Jvm.Cond.code x code maxLocals ret :: tables_1) room_1).applies x e0.platform about1 = true :=
  (Spec.applies_iff w_frames).mpr ⟨w_running, w_runnable, w_alone, w_named, w_hears, w_ripe, w_room, w_tables⟩
theorem atStart : AtStart classFile x code maxLocals ret World_1 tables_1 room_1 Calls_1 rest_1 Pre_1 launch0 p0 e0 about1 theMethod args0 below0 :=
  ⟨lists_1, trivial, launch0.admits_env _ _ _, launch0.least_env, fairChoices_fair.cas, fairChoices_fair.clock, w_frames, w_args, w_heap, w_applies, trivial, w_rest, w_case⟩
end start1
theorem witness_1 : WitnessClaimed_1 := ⟨start1.p0, start1.e0, start1.about1, start1.theMethod, start1.args0, start1.below0, start1.atStart⟩
end Jvm.Pilot.@@N@@
