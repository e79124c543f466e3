import JvmDerived
import JvmDerived.Pilot.@@N@@Statement
import JvmDerived.Pilot.@@N@@Code
set_option linter.unusedVariables false
set_option linter.unusedSimpArgs false
/- laws to paste: Road.eqW, Road.codOf (cut by pick.py; bodies as the Statement names them) -/
namespace Jvm.Pilot.@@N@@
namespace StrChars
open Jvm Sem ClassFile Op Lib Jvm.Stand Jvm.Free.XT Jvm.Free.ALB Jvm.Free.JM Jvm.Free
open Jvm.Lib.Cold (StaticIs)
/-- a char array whose places are chars -/
def Ch (a : Addr) (A : Cell) (U : State) : Prop := Arr .char a A U ∧ Typed .char A
theorem Ch.mv {a : Addr} {A : Cell} {U U' : State} (h : Ch a A U) (hal : U.vm.Alike U'.vm) (hh : U'.heap = U.heap) : Ch a A U' := ⟨h.1.mv hal hh, h.2⟩
theorem Ch.keep {a : Addr} {A : Cell} {U U' : State} (h : Ch a A U) (hal : U.vm.Alike U'.vm) (hk : U'.heap[a]? = some A) : Ch a A U' := ⟨h.1.keep hal hk, h.2⟩
/-- what place i of a char[]'s cell holds -/
def cv (A : Cell) (i : Nat) : Int32 := match A.slots[i]? with | some (.int x) => x | _ => 0
theorem Ch.get {a : Addr} {A : Cell} {U : State} (h : Ch a A U) {i : Nat} (hi : i < A.slots.size) : A.slots[i]? = some (.int (cv A i)) := by
  have e := Array.getElem?_eq_getElem hi
  have f := h.2 i _ e
  unfold cv; rw [e]
  generalize A.slots[i] = v at f
  cases v <;> simp [fits] at f ⊢
/-- the byte that i2b leaves of a char -/
def lo8 (x : Int32) : Int32 := x.toInt8.toInt32
theorem fits_lo8 (y : Int32) : fits .byte (.int (lo8 y)) = true := by
  have h1 := y.toInt8.le_toInt
  have h2 := y.toInt8.toInt_lt
  simp only [lo8, fits, Bool.and_eq_true, decide_eq_true_eq, Int32.le_iff_toInt_le, Int8.toInt_toInt32, show (-128 : Int32).toInt = -128 from by decide, show (127 : Int32).toInt = 127 from by decide]
  omega
/-- A' is A but that each place j of lo .. hi - 1 holds f j -/
def Laid (A A' : Cell) (lo hi : Nat) (f : Nat → Value) : Prop := A'.cls = A.cls ∧ A'.vm = A.vm ∧ A'.slots.size = A.slots.size ∧ ∀ i, A'.slots[i]? = if lo ≤ i ∧ i < hi then some (f i) else A.slots[i]?
theorem Laid.zero (A : Cell) (lo : Nat) (f : Nat → Value) : Laid A A lo (lo + 0) f := ⟨rfl, rfl, rfl, fun i => by rw [if_neg (by omega)]⟩
theorem Laid.step {A Ak : Cell} {lo k : Nat} {f : Nat → Value} {v : Value} (h : Laid A Ak lo k f) (hlo : lo ≤ k) (hk : k < Ak.slots.size) (hv : v = f k) : Laid A (Ak.setSlot k v) lo (k + 1) f := by
  refine ⟨h.1, h.2.1, by simpa [Cell.setSlot] using h.2.2.1, fun i => ?_⟩
  by_cases e : k = i
  · subst e; rw [Cell.slots_setSlot_self v hk, if_pos (by omega), hv]
  · rw [Cell.slots_setSlot_ne v e, h.2.2.2 i]
    by_cases q : lo ≤ i ∧ i < k
    · rw [if_pos q, if_pos (by omega)]
    · rw [if_neg q, if_neg (by omega)]
def U16 : String := "java/lang/StringUTF16"
namespace Cmp5
def yN : MethodName := ⟨"java/lang/StringUTF16", "compress", "([CI[BII)I"⟩
abbrev yB : ByteArray := jdk_52_method_21_code
theorem d0 : decode yB 0 = .ok (.iconst 0, 1) := by decide +kernel
theorem d1 : decode yB 1 = .ok (.istore 5, 2) := by decide +kernel
theorem d3 : decode yB 3 = .ok (.iload 5, 2) := by decide +kernel
theorem d5 : decode yB 5 = .ok (.iload 4, 2) := by decide +kernel
theorem d7 : decode yB 7 = .ok (.if_icmp (.ge) 37, 3) := by decide +kernel
theorem d10 : decode yB 10 = .ok (.aload_n 0, 1) := by decide +kernel
theorem d11 : decode yB 11 = .ok (.iload_n 1, 1) := by decide +kernel
theorem d12 : decode yB 12 = .ok (.caload, 1) := by decide +kernel
theorem d13 : decode yB 13 = .ok (.istore 6, 2) := by decide +kernel
theorem d15 : decode yB 15 = .ok (.iload 6, 2) := by decide +kernel
theorem d17 : decode yB 17 = .ok (.sipush 255, 3) := by decide +kernel
theorem d20 : decode yB 20 = .ok (.if_icmp (.le) 6, 3) := by decide +kernel
theorem d26 : decode yB 26 = .ok (.aload_n 2, 1) := by decide +kernel
theorem d27 : decode yB 27 = .ok (.iload_n 3, 1) := by decide +kernel
theorem d28 : decode yB 28 = .ok (.iload 6, 2) := by decide +kernel
theorem d30 : decode yB 30 = .ok (.i2b, 1) := by decide +kernel
theorem d31 : decode yB 31 = .ok (.bastore, 1) := by decide +kernel
theorem d32 : decode yB 32 = .ok (.iinc 1 1, 3) := by decide +kernel
theorem d35 : decode yB 35 = .ok (.iinc 3 1, 3) := by decide +kernel
theorem d38 : decode yB 38 = .ok (.iinc 5 1, 3) := by decide +kernel
theorem d41 : decode yB 41 = .ok (.goto (-38), 3) := by decide +kernel
theorem d44 : decode yB 44 = .ok (.iload 4, 2) := by decide +kernel
theorem d46 : decode yB 46 = .ok (.ireturn, 1) := by decide +kernel
def site : List Cond := []
def tab : Cond := tabOf yN yB 7 (some .int) site
def P (b : Addr) (A : Cell) (d : Addr) (B : Cell) (o q len : Nat) (args : Array Value) (s : State) : Prop := args = #[.ref b, .int (Int32.ofNat o), .ref d, .int (Int32.ofNat q), .int (Int32.ofNat len)] ∧ Ch b A s ∧ Arr .byte d B s ∧ b ≠ d ∧ o + len ≤ A.slots.size ∧ q + len ≤ B.slots.size ∧ ∀ i, i < len → ¬ 255 < cv A (o + i)
def E (b : Addr) (A : Cell) (d : Addr) (B : Cell) (o q len : Nat) (r : Option Value) (s u : State) : Prop := r = some (.int (Int32.ofNat len)) ∧ ∃ B', Put d B' s u ∧ Laid B B' q (q + len) (fun j => Value.int (lo8 (cv A (o + (j - q)))))
/-- no char of the range above 255: len; the places written hold each char's low byte -/
theorem law (l : Launch) (b : Addr) (A : Cell) (d : Addr) (B : Cell) (o q len : Nat) : Law l yN 5 5 0 0 yB 7 (some .int) site (P b A d B o q len) (E b A d B o q len) (copyLocs d q len) 0 0 := by
  refine Law.of_walk (plainFor_of_name (by decide +kernel)) (by decide +kernel) (by decide +kernel) (by decide) (fun _ _ h => by rw [h.1]; rfl) (fun _ U U' hal hh h => ⟨h.1, h.2.1.mv hal hh, h.2.2.1.mv hal hh, h.2.2.2⟩) (fun r U U' V V' h1 hal h2 h => ⟨h.1, h.2.elim fun B' q => ⟨B', q.1.mv h1 h2, q.2⟩⟩) ?_
  intro p e s m args below meth c s₁ X0 hexec hbytes hml hret hlk hnm hown hh0 W hP
  obtain ⟨rfl, hA, hB, hne, l1, l2, hp⟩ := hP
  have c1 : Steps p.tables e below (s₁.setTop (entryFrame m #[.ref b, .int (Int32.ofNat o), .ref d, .int (Int32.ofNat q), .int (Int32.ofNat len)] 7)) (s₁.setTop (mkF m 0 #[.val (.ref b), .val (.int (Int32.ofNat o)), .val (.ref d), .val (.int (Int32.ofNat q)), .val (.int (Int32.ofNat len)), .unset, .unset] [])) := entry rfl
  have hA0 := hA.1.mv X0.warmed.alike hh0
  have hB0 := hB.mv X0.warmed.alike hh0
  have a31 := hA.1.2.2.2
  have c2 : Steps p.tables e below (s₁.setTop (entryFrame m #[.ref b, .int (Int32.ofNat o), .ref d, .int (Int32.ofNat q), .int (Int32.ofNat len)] 7)) (s₁.setTop (mkF m 3 #[.val (.ref b), .val (.int (Int32.ofNat o)), .val (.ref d), .val (.int (Int32.ofNat q)), .val (.int (Int32.ofNat len)), .val (.int 0), .unset] [])) := c1.trans (by
    refine iconstV X0.here hexec rfl 0 (hb hbytes d0) (by decide) ?_
    refine XS.istore X0.here hexec rfl (hb hbytes d1) rfl rfl ?_
    exact Steps.refl _)
  have loop : ∀ (r i : Nat), i + r = len → ∀ (z : Slot), (z = .unset ∨ ∃ w, z = .val w ∧ w.category = 1) → ∀ (Tl : State) (Bk : Cell), Stand p l e { frames := 0, locals := 0, cells := 0, slots := 0 } s m #[.ref b, .int (Int32.ofNat o), .ref d, .int (Int32.ofNat q), .int (Int32.ofNat len)] below meth c Tl ([] ++ copyLocs d q i) 0 0 → Put d Bk s₁ Tl → Laid B Bk q (q + i) (fun j => Value.int (lo8 (cv A (o + (j - q))))) →
      Steps p.tables e below (s₁.setTop (entryFrame m #[.ref b, .int (Int32.ofNat o), .ref d, .int (Int32.ofNat q), .int (Int32.ofNat len)] 7)) (Tl.setTop (mkF m 3 #[.val (.ref b), .val (.int (Int32.ofNat (o + i))), .val (.ref d), .val (.int (Int32.ofNat (q + i))), .val (.int (Int32.ofNat len)), .val (.int (Int32.ofNat i)), z] [])) → ∃ (T' : State) (B' : Cell) (z' : Slot), Stand p l e { frames := 0, locals := 0, cells := 0, slots := 0 } s m #[.ref b, .int (Int32.ofNat o), .ref d, .int (Int32.ofNat q), .int (Int32.ofNat len)] below meth c T' ([] ++ copyLocs d q len) 0 0 ∧ Put d B' s₁ T' ∧ Laid B B' q (q + len) (fun j => Value.int (lo8 (cv A (o + (j - q))))) ∧
      Steps p.tables e below (s₁.setTop (entryFrame m #[.ref b, .int (Int32.ofNat o), .ref d, .int (Int32.ofNat q), .int (Int32.ofNat len)] 7)) (T'.setTop (mkF m 3 #[.val (.ref b), .val (.int (Int32.ofNat (o + len))), .val (.ref d), .val (.int (Int32.ofNat (q + len))), .val (.int (Int32.ofNat len)), .val (.int (Int32.ofNat len)), z'] [])) := by
    intro r
    induction r with
    | zero =>
      intro i hi z hz Tl Bk Xl pl fl cl
      have hil : i = len := by omega
      rw [hil] at Xl fl cl
      exact ⟨Tl, Bk, z, Xl, pl, fl, cl⟩
    | succ r ih =>
      intro i hi z hz Tl Bk Xl pl fl cl
      have all := X0.warmed.alike.symm.trans Xl.warmed.alike
      have hAl := hA0.keep all (pl.other hne hA0.1)
      have hBk := hB0.like all pl.1 fl.1 fl.2.1 fl.2.2.1
      have hlt : q + i < Bk.slots.size := by rw [fl.2.2.1]; omega
      have c3 : Steps p.tables e below (s₁.setTop (entryFrame m #[.ref b, .int (Int32.ofNat o), .ref d, .int (Int32.ofNat q), .int (Int32.ofNat len)] 7)) (Tl.setTop (mkF m 12 #[.val (.ref b), .val (.int (Int32.ofNat (o + i))), .val (.ref d), .val (.int (Int32.ofNat (q + i))), .val (.int (Int32.ofNat len)), .val (.int (Int32.ofNat i)), z] [.int (Int32.ofNat (o + i)), .ref b])) := cl.trans (by
        refine XS.iload Xl.here hexec rfl (hb hbytes d3) rfl ?_
        refine XS.iload Xl.here hexec rfl (hb hbytes d5) rfl ?_
        refine XS.icmpNo Xl.here hexec rfl (hb hbytes d7) rfl (ii_ge_f (lt32 (by omega) (by omega))) ?_
        refine XS.aloadN Xl.here hexec rfl (hb hbytes d10) rfl rfl ?_
        refine XS.iloadN Xl.here hexec rfl (hb hbytes d11) rfl ?_
        exact Steps.refl _)
      have c4 : Steps p.tables e below (s₁.setTop (entryFrame m #[.ref b, .int (Int32.ofNat o), .ref d, .int (Int32.ofNat q), .int (Int32.ofNat len)] 7)) (Tl.setTop (mkF m 13 #[.val (.ref b), .val (.int (Int32.ofNat (o + i))), .val (.ref d), .val (.int (Int32.ofNat (q + i))), .val (.int (Int32.ofNat len)), .val (.int (Int32.ofNat i)), z] [.int (cv A (o + i))])) := c3.trans (by
        refine Xl.aget hexec hAl rfl (hA.get (i := o + i) (by omega)) rfl rfl (hb hbytes d12) ?_
        exact Steps.refl _)
      have c5 : Steps p.tables e below (s₁.setTop (entryFrame m #[.ref b, .int (Int32.ofNat o), .ref d, .int (Int32.ofNat q), .int (Int32.ofNat len)] 7)) (Tl.setTop (mkF m 15 #[.val (.ref b), .val (.int (Int32.ofNat (o + i))), .val (.ref d), .val (.int (Int32.ofNat (q + i))), .val (.int (Int32.ofNat len)), .val (.int (Int32.ofNat i)), .val (.int (cv A (o + i)))] [])) := c4.trans (by
        refine XS.istoreS Xl.here hexec rfl (hb hbytes d13) rfl rfl hz ?_
        exact Steps.refl _)
      have c6 : Steps p.tables e below (s₁.setTop (entryFrame m #[.ref b, .int (Int32.ofNat o), .ref d, .int (Int32.ofNat q), .int (Int32.ofNat len)] 7)) (Tl.setTop (mkF m 31 #[.val (.ref b), .val (.int (Int32.ofNat (o + i))), .val (.ref d), .val (.int (Int32.ofNat (q + i))), .val (.int (Int32.ofNat len)), .val (.int (Int32.ofNat i)), .val (.int (cv A (o + i)))] [.int (lo8 (cv A (o + i))), .int (Int32.ofNat (q + i)), .ref d])) := c5.trans (by
        refine XS.iload Xl.here hexec rfl (hb hbytes d15) rfl ?_
        refine sipushV Xl.here hexec rfl 255 (hb hbytes d17) (by decide) ?_
        refine XS.icmpYes Xl.here hexec rfl (pc0 := 20) rfl (hb hbytes d20) rfl (ii_le_t (hp i (by omega))) (by decide) rfl ?_
        refine XS.aloadN Xl.here hexec rfl (hb hbytes d26) rfl rfl ?_
        refine XS.iloadN Xl.here hexec rfl (hb hbytes d27) rfl ?_
        refine XS.iload Xl.here hexec rfl (hb hbytes d28) rfl ?_
        refine i2b Xl.here hexec rfl (hb hbytes d30) rfl ?_
        exact Steps.refl _)
      obtain ⟨T7, X7, p7, st7⟩ := Xl.aput hexec hBk rfl hlt rfl (fits_lo8 (cv A (o + i))) (g := (mkF m 31 #[.val (.ref b), .val (.int (Int32.ofNat (o + i))), .val (.ref d), .val (.int (Int32.ofNat (q + i))), .val (.int (Int32.ofNat len)), .val (.int (Int32.ofNat i)), .val (.int (cv A (o + i)))] [.int (lo8 (cv A (o + i))), .int (Int32.ofNat (q + i)), .ref d])) rfl (rest := []) rfl (hb hbytes d31)
      have c8 : Steps p.tables e below (s₁.setTop (entryFrame m #[.ref b, .int (Int32.ofNat o), .ref d, .int (Int32.ofNat q), .int (Int32.ofNat len)] 7)) (T7.setTop (mkF m 32 #[.val (.ref b), .val (.int (Int32.ofNat (o + i))), .val (.ref d), .val (.int (Int32.ofNat (q + i))), .val (.int (Int32.ofNat len)), .val (.int (Int32.ofNat i)), .val (.int (cv A (o + i)))] [])) := c6.trans (st7 _ (Steps.refl _))
      have c9 : Steps p.tables e below (s₁.setTop (entryFrame m #[.ref b, .int (Int32.ofNat o), .ref d, .int (Int32.ofNat q), .int (Int32.ofNat len)] 7)) (T7.setTop (mkF m 3 #[.val (.ref b), .val (.int (Int32.ofNat (o + i) + 1)), .val (.ref d), .val (.int (Int32.ofNat (q + i) + 1)), .val (.int (Int32.ofNat len)), .val (.int (Int32.ofNat i + 1)), .val (.int (cv A (o + i)))] [])) := c8.trans (by
        refine iincV X7.here hexec rfl 1 (hb hbytes d32) (by decide) rfl rfl ?_
        refine iincV X7.here hexec rfl 1 (hb hbytes d35) (by decide) rfl rfl ?_
        refine iincV X7.here hexec rfl 1 (hb hbytes d38) (by decide) rfl rfl ?_
        refine XS.goto X7.here hexec rfl (pc0 := 41) rfl (hb hbytes d41) (by decide) rfl ?_
        exact Steps.refl _)
      have c10 : Steps p.tables e below (s₁.setTop (entryFrame m #[.ref b, .int (Int32.ofNat o), .ref d, .int (Int32.ofNat q), .int (Int32.ofNat len)] 7)) (T7.setTop (mkF m 3 #[.val (.ref b), .val (.int (Int32.ofNat (o + (i + 1)))), .val (.ref d), .val (.int (Int32.ofNat (q + (i + 1)))), .val (.int (Int32.ofNat len)), .val (.int (Int32.ofNat (i + 1))), .val (.int (cv A (o + i)))] [])) := by
        have := c9
        rw [succ32, succ32, succ32] at this
        exact this
      exact ih (i + 1) (by omega) _ (Or.inr ⟨_, rfl, rfl⟩) T7 _ (by rw [copyLocs_step, ← List.append_assoc]; exact X7) (pl.trans p7) (fl.step (by omega) hlt (by simp)) c10
  obtain ⟨T9, B9, z9, X9, p9, f9, g9⟩ := loop len 0 (by omega) .unset (Or.inl rfl) s₁ B (by simpa [copyLocs] using X0) ⟨hB0.1, fun _ _ => rfl, rfl⟩ (Laid.zero _ _ _) c2
  have c11 : Steps p.tables e below (s₁.setTop (entryFrame m #[.ref b, .int (Int32.ofNat o), .ref d, .int (Int32.ofNat q), .int (Int32.ofNat len)] 7)) (T9.setTop (mkF m 46 #[.val (.ref b), .val (.int (Int32.ofNat (o + len))), .val (.ref d), .val (.int (Int32.ofNat (q + len))), .val (.int (Int32.ofNat len)), .val (.int (Int32.ofNat len)), z9] [.int (Int32.ofNat len)])) := g9.trans (by
    refine XS.iload X9.here hexec rfl (hb hbytes d3) rfl ?_
    refine XS.iload X9.here hexec rfl (hb hbytes d5) rfl ?_
    refine XS.icmpYes X9.here hexec rfl (pc0 := 7) rfl (hb hbytes d7) rfl (ii_ge_t (nlt32 (by omega) (Nat.le_refl _))) (by decide) rfl ?_
    refine XS.iload X9.here hexec rfl (hb hbytes d44) rfl ?_
    exact Steps.refl _)
  exact ⟨T9, some (.int (Int32.ofNat len)), _, _, _, X9, by simp, rfl, rfl, (fun h => by cases h), ⟨rfl, B9, p9.from hh0, f9⟩, fun fs hl => c11.trans (X9.ireturnOut hexec hret rfl (Or.inl rfl) (hb hbytes d46) hl)⟩
end Cmp5
namespace Cmp3
def yN : MethodName := ⟨"java/lang/StringUTF16", "compress", "([CII)[B"⟩
abbrev yB : ByteArray := jdk_52_method_16_code
theorem d0 : decode yB 0 = .ok (.iload_n 2, 1) := by decide +kernel
theorem d1 : decode yB 1 = .ok (.newarray .byte, 2) := by decide +kernel
theorem d3 : decode yB 3 = .ok (.astore_n 3, 1) := by decide +kernel
theorem d4 : decode yB 4 = .ok (.aload_n 0, 1) := by decide +kernel
theorem d5 : decode yB 5 = .ok (.iload_n 1, 1) := by decide +kernel
theorem d6 : decode yB 6 = .ok (.aload_n 3, 1) := by decide +kernel
theorem d7 : decode yB 7 = .ok (.iconst 0, 1) := by decide +kernel
theorem d8 : decode yB 8 = .ok (.iload_n 2, 1) := by decide +kernel
theorem d9 : decode yB 9 = .ok (.invokestatic 115, 3) := by decide +kernel
theorem d12 : decode yB 12 = .ok (.istore 4, 2) := by decide +kernel
theorem d14 : decode yB 14 = .ok (.iload 4, 2) := by decide +kernel
theorem d16 : decode yB 16 = .ok (.iload_n 2, 1) := by decide +kernel
theorem d17 : decode yB 17 = .ok (.if_icmp (.eq) 40, 3) := by decide +kernel
theorem d57 : decode yB 57 = .ok (.aload_n 3, 1) := by decide +kernel
theorem d58 : decode yB 58 = .ok (.areturn, 1) := by decide +kernel
def site : List Cond := [.arrayClass .byte, Cmp5.tab] ++ staticW U16 115 Cmp5.yN
def tab : Cond := tabOf yN yB 6 (some (.array .byte)) site
def P (b : Addr) (A : Cell) (o len : Nat) (args : Array Value) (s : State) : Prop := args = #[.ref b, .int (Int32.ofNat o), .int (Int32.ofNat len)] ∧ Ch b A s ∧ o + len ≤ A.slots.size ∧ len ≤ 536870912 ∧ ∀ i, i < len → ¬ 255 < cv A (o + i)
def E (b : Addr) (A : Cell) (o len : Nat) (r : Option Value) (s u : State) : Prop := NewArr .byte "[B" len (fun j => .int (lo8 (cv A (o + j)))) r s u ∧ u.heap.size = s.heap.size + 1
/-- no char of the range above 255: a new byte[] of their low bytes -/
theorem law (l : Launch) (b : Addr) (A : Cell) (o len : Nat) : Law l yN 3 3 1 18 yB 6 (some (.array .byte)) site (P b A o len) (E b A o len) [] 1 len := by
  refine Law.of_walk (plainFor_of_name (by decide +kernel)) (by decide +kernel) (by decide +kernel) (by decide) (fun _ _ h => by rw [h.1]; rfl) (fun _ U U' hal hh h => ⟨h.1, h.2.1.mv hal hh, h.2.2⟩) (fun r U U' V V' h1 hal h2 h => ⟨NewArr.mv r U U' V V' h1 hal h2 h.1, by rw [h1, h2]; exact h.2⟩) ?_
  intro p e s m args below meth c s₁ X0 hexec hbytes hml hret hlk hnm hown hh0 W hP
  obtain ⟨rfl, hA, l1, l2, hp⟩ := hP
  have a31 := hA.1.2.2.2
  have c1 : Steps p.tables e below (s₁.setTop (entryFrame m #[.ref b, .int (Int32.ofNat o), .int (Int32.ofNat len)] 6)) (s₁.setTop (mkF m 0 #[.val (.ref b), .val (.int (Int32.ofNat o)), .val (.int (Int32.ofNat len)), .unset, .unset, .unset] [])) := entry rfl
  have c2 : Steps p.tables e below (s₁.setTop (entryFrame m #[.ref b, .int (Int32.ofNat o), .int (Int32.ofNat len)] 6)) (s₁.setTop (mkF m 1 #[.val (.ref b), .val (.int (Int32.ofNat o)), .val (.int (Int32.ofNat len)), .unset, .unset, .unset] [.int (Int32.ofNat len)])) := c1.trans (by
    refine XS.iloadN X0.here hexec rfl (hb hbytes d0) rfl ?_
    exact Steps.refl _)
  obtain ⟨T3, B3, X3, ba3, bs3, bv3, bh3, bf3, st3⟩ := X0.anew hexec (atype := .byte) (wk W (.arrayClass .byte)) rfl (by show len * 1 ≤ _; omega) (by omega) (g := (mkF m 1 #[.val (.ref b), .val (.int (Int32.ofNat o)), .val (.int (Int32.ofNat len)), .unset, .unset, .unset] [.int (Int32.ofNat len)])) rfl (hb hbytes d1) (rest := []) rfl (Nat.le_refl _) (by show 0 + len ≤ len; omega)
  rw [hh0] at ba3 st3
  have kp3 : XT.Kept s T3 := (XT.Kept.of_eq hh0).push bh3
  have hA3 := hA.keep X3.warmed.alike (kp3 _ _ hA.1.1)
  have hne : b ≠ s.heap.size := hA.1.ne
  have c4 : Steps p.tables e below (s₁.setTop (entryFrame m #[.ref b, .int (Int32.ofNat o), .int (Int32.ofNat len)] 6)) (T3.setTop (mkF m 3 #[.val (.ref b), .val (.int (Int32.ofNat o)), .val (.int (Int32.ofNat len)), .unset, .unset, .unset] [.ref s.heap.size])) := c2.trans (st3 _ (Steps.refl _))
  have c5 : Steps p.tables e below (s₁.setTop (entryFrame m #[.ref b, .int (Int32.ofNat o), .int (Int32.ofNat len)] 6)) (T3.setTop (mkF m 9 #[.val (.ref b), .val (.int (Int32.ofNat o)), .val (.int (Int32.ofNat len)), .val (.ref s.heap.size), .unset, .unset] [.int (Int32.ofNat len), .int 0, .ref s.heap.size, .int (Int32.ofNat o), .ref b])) := c4.trans (by
    refine XS.astoreN X3.here hexec rfl (hb hbytes d3) rfl rfl rfl ?_
    refine XS.aloadN X3.here hexec rfl (hb hbytes d4) rfl rfl ?_
    refine XS.iloadN X3.here hexec rfl (hb hbytes d5) rfl ?_
    refine XS.aloadN X3.here hexec rfl (hb hbytes d6) rfl rfl ?_
    refine iconstV X3.here hexec rfl 0 (hb hbytes d7) (by decide) ?_
    refine XS.iloadN X3.here hexec rfl (hb hbytes d8) rfl ?_
    exact Steps.refl _)
  obtain ⟨v6, T6, X6, E6, g6⟩ := X3.callS hexec (Cmp5.law l b A s.heap.size B3 o 0 len) hown (wks W (staticW U16 115 Cmp5.yN)) (wk W Cmp5.tab) (W := 0) (Nat.le_of_ble_eq_true rfl) (Nat.le_of_ble_eq_true rfl) (Nat.le_refl _) (by show 0 + len + 0 ≤ len; omega) (g := (mkF m 9 #[.val (.ref b), .val (.int (Int32.ofNat o)), .val (.int (Int32.ofNat len)), .val (.ref s.heap.size), .unset, .unset] [.int (Int32.ofNat len), .int (Int32.ofNat 0), .ref s.heap.size, .int (Int32.ofNat o), .ref b])) rfl (by rw [hml]; rfl) c5 (argsL := [.ref b, .int (Int32.ofNat o), .ref s.heap.size, .int (Int32.ofNat 0), .int (Int32.ofNat len)]) (rest := []) rfl rfl (by show 2 * 0 + 0 ≤ _; decide) (hb hbytes d9) (⟨rfl, hA3, ba3, hne, l1, by rw [bs3]; simp, hp⟩)
  obtain ⟨rfl, B6, p6, f6⟩ := E6
  have c7 : Steps p.tables e below (s₁.setTop (entryFrame m #[.ref b, .int (Int32.ofNat o), .int (Int32.ofNat len)] 6)) (T6.setTop (mkF m 12 #[.val (.ref b), .val (.int (Int32.ofNat o)), .val (.int (Int32.ofNat len)), .val (.ref s.heap.size), .unset, .unset] [.int (Int32.ofNat len)])) := g6
  have c8 : Steps p.tables e below (s₁.setTop (entryFrame m #[.ref b, .int (Int32.ofNat o), .int (Int32.ofNat len)] 6)) (T6.setTop (mkF m 58 #[.val (.ref b), .val (.int (Int32.ofNat o)), .val (.int (Int32.ofNat len)), .val (.ref s.heap.size), .val (.int (Int32.ofNat len)), .unset] [.ref s.heap.size])) := c7.trans (by
    refine XS.istore X6.here hexec rfl (hb hbytes d12) rfl rfl ?_
    refine XS.iload X6.here hexec rfl (hb hbytes d14) rfl ?_
    refine XS.iloadN X6.here hexec rfl (hb hbytes d16) rfl ?_
    refine XS.icmpYes X6.here hexec rfl (pc0 := 17) rfl (hb hbytes d17) rfl (ii_eq_t rfl) (by decide) rfl ?_
    refine XS.aloadN X6.here hexec rfl (hb hbytes d57) rfl rfl ?_
    exact Steps.refl _)
  have X8 := X6.wide (L' := []) (cells' := 1) (slots' := len) (fun x hx hlt => by
    simp only [List.nil_append, copyLocs, List.mem_map, List.mem_range] at hx
    obtain ⟨i, -, rfl⟩ := hx
    exact absurd hlt (Nat.lt_irrefl _)) (Nat.le_refl _) (by omega)
  exact ⟨T6, some (.ref s.heap.size), _, _, _, X8, rfl, rfl, rfl, (fun h => by cases h), ⟨⟨rfl, B6, ba3.like (X3.warmed.alike.symm.trans X6.warmed.alike) p6.1 f6.1 f6.2.1 f6.2.2.1, f6.2.1.trans bv3, by rw [X6.warmed.alike.findClass, f6.1]; exact bf3, by rw [f6.2.2.1, bs3]; simp, fun j hj => by rw [f6.2.2.2 j, if_pos (by omega)]; rfl, kp3.put p6 (Nat.le_refl _)⟩, by rw [p6.2.2, bh3, hh0]; simp⟩, fun fs hl => c8.trans (X8.areturnOut hexec rfl hret rfl (hb hbytes d58) hl)⟩
end Cmp3
namespace CodL
def yN : MethodName := ⟨"java/lang/StringUTF16", "coderFromArrayLen", "([BI)B"⟩
abbrev yB : ByteArray := jdk_52_method_15_code
theorem d0 : decode yB 0 = .ok (.iload_n 1, 1) := by decide +kernel
theorem d1 : decode yB 1 = .ok (.aload_n 0, 1) := by decide +kernel
theorem d2 : decode yB 2 = .ok (.arraylength, 1) := by decide +kernel
theorem d3 : decode yB 3 = .ok (.isub, 1) := by decide +kernel
theorem d4 : decode yB 4 = .ok (.bipush 31, 2) := by decide +kernel
theorem d6 : decode yB 6 = .ok (.iushr, 1) := by decide +kernel
theorem d7 : decode yB 7 = .ok (.i2b, 1) := by decide +kernel
theorem d8 : decode yB 8 = .ok (.ireturn, 1) := by decide +kernel
def site : List Cond := []
def tab : Cond := tabOf yN yB 2 (some .byte) site
def P (d : Addr) (B : Cell) (args : Array Value) (s : State) : Prop := args = #[.ref d, .int (Int32.ofNat B.slots.size)] ∧ Arr .byte d B s
def E (r : Option Value) (s u : State) : Prop := XT.PureE (some (.int 0)) r s u
/-- an array as long as the number of chars: LATIN1 -/
theorem law (l : Launch) (d : Addr) (B : Cell) : Law l yN 2 2 0 0 yB 2 (some .byte) site (P d B) E [] 0 0 := by
  refine Law.of_walk (plainFor_of_name (by decide +kernel)) (by decide +kernel) (by decide +kernel) (by decide) (fun _ _ h => by rw [h.1]; rfl) (fun _ U U' hal hh h => ⟨h.1, h.2.mv hal hh⟩) (fun r U U' V V' h1 hal h2 h => XT.PureE.mv r U U' V V' h1 hal h2 h) ?_
  intro p e s m args below meth c s₁ X0 hexec hbytes hml hret hlk hnm hown hh0 W hP
  obtain ⟨rfl, hB⟩ := hP
  have hB0 := hB.mv X0.warmed.alike hh0
  have c1 : Steps p.tables e below (s₁.setTop (entryFrame m #[.ref d, .int (Int32.ofNat B.slots.size)] 2)) (s₁.setTop (mkF m 0 #[.val (.ref d), .val (.int (Int32.ofNat B.slots.size))] [])) := entry rfl
  have c2 : Steps p.tables e below (s₁.setTop (entryFrame m #[.ref d, .int (Int32.ofNat B.slots.size)] 2)) (s₁.setTop (mkF m 2 #[.val (.ref d), .val (.int (Int32.ofNat B.slots.size))] [.ref d, .int (Int32.ofNat B.slots.size)])) := c1.trans (by
    refine XS.iloadN X0.here hexec rfl (hb hbytes d0) rfl ?_
    refine XS.aloadN X0.here hexec rfl (hb hbytes d1) rfl rfl ?_
    exact Steps.refl _)
  have c3 : Steps p.tables e below (s₁.setTop (entryFrame m #[.ref d, .int (Int32.ofNat B.slots.size)] 2)) (s₁.setTop (mkF m 8 #[.val (.ref d), .val (.int (Int32.ofNat B.slots.size))] [.int (lo8 (ushr (Int32.ofNat B.slots.size - Int32.ofNat B.slots.size) 31))])) := c2.trans (by
    refine X0.alen hexec hB0 rfl rfl (hb hbytes d2) ?_
    refine XS.isub X0.here hexec rfl (hb hbytes d3) rfl ?_
    refine bipushV X0.here hexec rfl 31 (hb hbytes d4) (by decide) ?_
    refine iushr X0.here hexec rfl (hb hbytes d6) rfl ?_
    refine i2b X0.here hexec rfl (hb hbytes d7) rfl ?_
    exact Steps.refl _)
  have e0 : lo8 (ushr (Int32.ofNat B.slots.size - Int32.ofNat B.slots.size) 31) = 0 := by rw [Int32.sub_self]; decide
  rw [e0] at c3
  exact ⟨s₁, some (.int 0), _, _, _, X0, rfl, rfl, rfl, (fun h => by cases h), ⟨rfl, hh0⟩, fun fs hl => c3.trans (X0.ireturnOut hexec hret rfl (Or.inr (Or.inr (Or.inl rfl))) (hb hbytes d8) hl)⟩
end CodL
/-- the String at a is Latin-1 over a new byte[] (the heap's one new cell): the low bytes of the len chars of A from o on; every cell but a is kept -/
def Got (a : Addr) (D : Cell) (fV fC : Field) (A : Cell) (o len : Nat) (r : Option Value) (s u : State) : Prop := r = none ∧ ∃ D' V : Cell, Blank "java/lang/String" a D' u ∧ Same D D' [fV.slot, fC.slot] ∧ D'.slots[fV.slot]? = some (.ref s.heap.size) ∧ D'.slots[fC.slot]? = some (.int 0) ∧ Arr .byte s.heap.size V u ∧ V.vm = .none ∧ u.vm.findClass "[B" = some V.cls ∧ V.slots.size = len ∧ (∀ j, j < len → V.slots[j]? = some (.int (lo8 (cv A (o + j))))) ∧ (∀ (y : Addr) (c : Cell), y ≠ a → s.heap[y]? = some c → u.heap[y]? = some c) ∧ u.heap.size = s.heap.size + 1
theorem Got.mv {a : Addr} {D A : Cell} {fV fC : Field} {o len : Nat} : ∀ r (U U' V V' : State), U'.heap = U.heap → V.vm.Alike V'.vm → V'.heap = V.heap → Got a D fV fC A o len r U V → Got a D fV fC A o len r U' V' :=
  fun r U U' V V' h1 hal h2 ⟨e0, D', X, a1, a2, a3, a4, a5, a6, a7, a8, a9, a10, a11⟩ => ⟨e0, D', X, a1.mv hal h2, a2, by rw [h1]; exact a3, a4, by rw [h1]; exact a5.mv hal h2, a6, by rw [hal.findClass]; exact a7, a8, a9, by rw [h1, h2]; exact a10, by rw [h1, h2]; exact a11⟩
namespace New4
def yN : MethodName := ⟨"java/lang/String", "<init>", "([CIILjava/lang/Void;)V"⟩
abbrev yB : ByteArray := jdk_42_method_149_code
theorem d0 : decode yB 0 = .ok (.aload_n 0, 1) := by decide +kernel
theorem d1 : decode yB 1 = .ok (.invokespecial 1, 3) := by decide +kernel
theorem d4 : decode yB 4 = .ok (.iload_n 3, 1) := by decide +kernel
theorem d5 : decode yB 5 = .ok (.ifCond (.ne) 22, 3) := by decide +kernel
theorem d27 : decode yB 27 = .ok (.getstatic 38, 3) := by decide +kernel
theorem d30 : decode yB 30 = .ok (.ifCond (.eq) 28, 3) := by decide +kernel
theorem d33 : decode yB 33 = .ok (.aload_n 1, 1) := by decide +kernel
theorem d34 : decode yB 34 = .ok (.iload_n 2, 1) := by decide +kernel
theorem d35 : decode yB 35 = .ok (.iload_n 3, 1) := by decide +kernel
theorem d36 : decode yB 36 = .ok (.invokestatic 177, 3) := by decide +kernel
theorem d39 : decode yB 39 = .ok (.astore 5, 2) := by decide +kernel
theorem d41 : decode yB 41 = .ok (.aload_n 0, 1) := by decide +kernel
theorem d42 : decode yB 42 = .ok (.aload 5, 2) := by decide +kernel
theorem d44 : decode yB 44 = .ok (.iload_n 3, 1) := by decide +kernel
theorem d45 : decode yB 45 = .ok (.invokestatic 47, 3) := by decide +kernel
theorem d48 : decode yB 48 = .ok (.putfield 15, 3) := by decide +kernel
theorem d51 : decode yB 51 = .ok (.aload_n 0, 1) := by decide +kernel
theorem d52 : decode yB 52 = .ok (.aload 5, 2) := by decide +kernel
theorem d54 : decode yB 54 = .ok (.putfield 9, 3) := by decide +kernel
theorem d57 : decode yB 57 = .ok (.return_, 1) := by decide +kernel
def site : List Cond := [.fieldLink "java/lang/String" 38 "java/lang/String" "COMPACT_STRINGS" "Z", Cmp3.tab, CodL.tab, .laysFinal "java/lang/String" "java/lang/String" "value" "[B", .fieldLink "java/lang/String" 9 "java/lang/String" "value" "[B", .laysFinal "java/lang/String" "java/lang/String" "coder" "B", .fieldLink "java/lang/String" 15 "java/lang/String" "coder" "B"] ++ objW "java/lang/String" 1 ++ staticW "java/lang/String" 177 Cmp3.yN ++ staticW "java/lang/String" 47 CodL.yN
def tab : Cond := tabOf yN yB 6 none site
def P (a : Addr) (D : Cell) (fV fC : Field) (b : Addr) (A : Cell) (z : Int32) (o len : Nat) (args : Array Value) (s : State) : Prop := args = #[.ref a, .ref b, .int (Int32.ofNat o), .int (Int32.ofNat len), .null] ∧ Blank "java/lang/String" a D s ∧ Found "java/lang/String" "value" "[B" fV s ∧ Found "java/lang/String" "coder" "B" fC s ∧ Ch b A s ∧ StaticIs s "java/lang/String" "COMPACT_STRINGS" "Z" (.int z) ∧ ¬ z = 0 ∧ 0 < len ∧ o + len ≤ A.slots.size ∧ len ≤ 536870912 ∧ ∀ i, i < len → ¬ 255 < cv A (o + i)
def E (a : Addr) (D : Cell) (fV fC : Field) (A : Cell) (o len : Nat) (r : Option Value) (s u : State) : Prop := Got a D fV fC A o len r s u
/-- len > 0, no char of the range above 255: a Latin-1 String of their low bytes -/
theorem law (l : Launch) (a : Addr) (D : Cell) (fV fC : Field) (b : Addr) (A : Cell) (z : Int32) (o len : Nat) : Law l yN 5 4 2 35 yB 6 none site (P a D fV fC b A z o len) (E a D fV fC A o len) [⟨a, fC.slot⟩, ⟨a, fV.slot⟩] 1 len := by
  refine Law.of_walk (plainFor_of_name (by decide +kernel)) (by decide +kernel) (by decide +kernel) (by decide) (fun _ _ h => by rw [h.1]; rfl) (fun _ U U' hal hh h => ⟨h.1, h.2.1.mv hal hh, h.2.2.1.al hal, h.2.2.2.1.al hal, h.2.2.2.2.1.mv hal hh, h.2.2.2.2.2.1.there hal hh, h.2.2.2.2.2.2⟩) (fun r U U' V V' h1 hal h2 h => Got.mv r U U' V V' h1 hal h2 h) ?_
  intro p e s m args below meth c s₁ X0 hexec hbytes hml hret hlk hnm hown hh0 W hP
  obtain ⟨rfl, hB, f1, f2, hA, s1, hz, l0, l1, l2, hp⟩ := hP
  have a31 := hA.1.2.2.2
  have c1 : Steps p.tables e below (s₁.setTop (entryFrame m #[.ref a, .ref b, .int (Int32.ofNat o), .int (Int32.ofNat len), .null] 6)) (s₁.setTop (mkF m 0 #[.val (.ref a), .val (.ref b), .val (.int (Int32.ofNat o)), .val (.int (Int32.ofNat len)), .val .null, .unset] [])) := entry rfl
  have c2 : Steps p.tables e below (s₁.setTop (entryFrame m #[.ref a, .ref b, .int (Int32.ofNat o), .int (Int32.ofNat len), .null] 6)) (s₁.setTop (mkF m 1 #[.val (.ref a), .val (.ref b), .val (.int (Int32.ofNat o)), .val (.int (Int32.ofNat len)), .val .null, .unset] [.ref a])) := c1.trans (by
    refine XS.aloadN X0.here hexec rfl (hb hbytes d0) rfl rfl ?_
    exact Steps.refl _)
  obtain ⟨T3, X3, q3, st3⟩ := X0.oinit hexec hown (wks W (objW "java/lang/String" 1)) (g := (mkF m 1 #[.val (.ref a), .val (.ref b), .val (.int (Int32.ofNat o)), .val (.int (Int32.ofNat len)), .val .null, .unset] [.ref a])) rfl (by rw [hml]; rfl) (rest := []) rfl (hb hbytes d1) (W := 0) (by show 2 * 0 + 0 ≤ _; decide) (Nat.le_of_ble_eq_true rfl) (Nat.le_of_ble_eq_true rfl)
  have hh3 := q3.trans hh0
  have c4 : Steps p.tables e below (s₁.setTop (entryFrame m #[.ref a, .ref b, .int (Int32.ofNat o), .int (Int32.ofNat len), .null] 6)) (T3.setTop (mkF m 27 #[.val (.ref a), .val (.ref b), .val (.int (Int32.ofNat o)), .val (.int (Int32.ofNat len)), .val .null, .unset] [])) := (c2.trans (st3 _ (Steps.refl _))).trans (by
    refine XS.iloadN X3.here hexec rfl (hb hbytes d4) rfl ?_
    refine XS.ifYes X3.here hexec rfl (pc0 := 5) rfl (hb hbytes d5) rfl (i0_ne_t (nz32 (by omega) l0)) (by decide) rfl ?_
    exact Steps.refl _)
  obtain ⟨T5, X5, q5, st5⟩ := X3.sget hexec hown (wk W (.fieldLink "java/lang/String" 38 "java/lang/String" "COMPACT_STRINGS" "Z")) s1 (fun _ _ h => by rw [hh3]; exact h) (g := (mkF m 27 #[.val (.ref a), .val (.ref b), .val (.int (Int32.ofNat o)), .val (.int (Int32.ofNat len)), .val .null, .unset] [])) rfl (hb hbytes d27)
  have hh5 := q5.trans hh3
  have c6 : Steps p.tables e below (s₁.setTop (entryFrame m #[.ref a, .ref b, .int (Int32.ofNat o), .int (Int32.ofNat len), .null] 6)) (T5.setTop (mkF m 30 #[.val (.ref a), .val (.ref b), .val (.int (Int32.ofNat o)), .val (.int (Int32.ofNat len)), .val .null, .unset] [.int z])) := c4.trans (st5 _ (Steps.refl _))
  have c7 : Steps p.tables e below (s₁.setTop (entryFrame m #[.ref a, .ref b, .int (Int32.ofNat o), .int (Int32.ofNat len), .null] 6)) (T5.setTop (mkF m 36 #[.val (.ref a), .val (.ref b), .val (.int (Int32.ofNat o)), .val (.int (Int32.ofNat len)), .val .null, .unset] [.int (Int32.ofNat len), .int (Int32.ofNat o), .ref b])) := c6.trans (by
    refine XS.ifNo X5.here hexec rfl (hb hbytes d30) rfl (i0_eq_f hz) ?_
    refine XS.aloadN X5.here hexec rfl (hb hbytes d33) rfl rfl ?_
    refine XS.iloadN X5.here hexec rfl (hb hbytes d34) rfl ?_
    refine XS.iloadN X5.here hexec rfl (hb hbytes d35) rfl ?_
    exact Steps.refl _)
  obtain ⟨v8, T8, X8, E8, g8⟩ := X5.callS hexec (Cmp3.law l b A o len) hown (wks W (staticW "java/lang/String" 177 Cmp3.yN)) (wk W Cmp3.tab) (W := 0) (Nat.le_of_ble_eq_true rfl) (Nat.le_of_ble_eq_true rfl) (Nat.le_refl _) (by show 0 + len ≤ len; omega) (g := (mkF m 36 #[.val (.ref a), .val (.ref b), .val (.int (Int32.ofNat o)), .val (.int (Int32.ofNat len)), .val .null, .unset] [.int (Int32.ofNat len), .int (Int32.ofNat o), .ref b])) rfl (by rw [hml]; rfl) c7 (argsL := [.ref b, .int (Int32.ofNat o), .int (Int32.ofNat len)]) (rest := []) rfl rfl (by show 2 * 0 + 0 ≤ _; decide) (hb hbytes d36) (⟨rfl, hA.mv X5.warmed.alike hh5, l1, l2, hp⟩)
  obtain ⟨e8, z8⟩ := E8
  obtain ⟨rfl, N, n1, n2, n3, n4, n5, n6⟩ := NewArr.mv _ T5 s _ _ hh5.symm (Vm.Alike.refl _) rfl e8
  rw [hh5] at z8
  have hB1 := hB.keep X8.warmed.alike (n6 _ _ hB.1)
  have hne : s.heap.size ≠ a := (Nat.ne_of_lt (Array.getElem?_eq_some_iff.mp hB.1).1).symm
  have c9 : Steps p.tables e below (s₁.setTop (entryFrame m #[.ref a, .ref b, .int (Int32.ofNat o), .int (Int32.ofNat len), .null] 6)) (T8.setTop (mkF m 39 #[.val (.ref a), .val (.ref b), .val (.int (Int32.ofNat o)), .val (.int (Int32.ofNat len)), .val .null, .unset] [.ref s.heap.size])) := g8
  have c10 : Steps p.tables e below (s₁.setTop (entryFrame m #[.ref a, .ref b, .int (Int32.ofNat o), .int (Int32.ofNat len), .null] 6)) (T8.setTop (mkF m 45 #[.val (.ref a), .val (.ref b), .val (.int (Int32.ofNat o)), .val (.int (Int32.ofNat len)), .val .null, .val (.ref s.heap.size)] [.int (Int32.ofNat N.slots.size), .ref s.heap.size, .ref a])) := by
    have hc : Steps p.tables e below (s₁.setTop (entryFrame m #[.ref a, .ref b, .int (Int32.ofNat o), .int (Int32.ofNat len), .null] 6)) (T8.setTop (mkF m 45 #[.val (.ref a), .val (.ref b), .val (.int (Int32.ofNat o)), .val (.int (Int32.ofNat len)), .val .null, .val (.ref s.heap.size)] [.int (Int32.ofNat len), .ref s.heap.size, .ref a])) := c9.trans (by
      refine XS.astore X8.here hexec rfl (hb hbytes d39) rfl rfl rfl ?_
      refine XS.aloadN X8.here hexec rfl (hb hbytes d41) rfl rfl ?_
      refine XS.aload X8.here hexec rfl (hb hbytes d42) rfl rfl ?_
      refine XS.iloadN X8.here hexec rfl (hb hbytes d44) rfl ?_
      exact Steps.refl _)
    rw [n4]; exact hc
  obtain ⟨v11, T11, X11, E11, g11⟩ := X8.callS hexec (CodL.law l s.heap.size N) hown (wks W (staticW "java/lang/String" 47 CodL.yN)) (wk W CodL.tab) (W := 1) (Nat.le_of_ble_eq_true rfl) (Nat.le_of_ble_eq_true rfl) (Nat.le_refl _) (by show 0 + len + 0 ≤ len; omega) (g := (mkF m 45 #[.val (.ref a), .val (.ref b), .val (.int (Int32.ofNat o)), .val (.int (Int32.ofNat len)), .val .null, .val (.ref s.heap.size)] [.int (Int32.ofNat N.slots.size), .ref s.heap.size, .ref a])) rfl (by rw [hml]; rfl) c10 (argsL := [.ref s.heap.size, .int (Int32.ofNat N.slots.size)]) (rest := [.ref a]) rfl rfl (by show 2 * 0 + (1 + 0) ≤ _; decide) (hb hbytes d45) (⟨rfl, n1⟩)
  obtain ⟨rfl, q11⟩ := E11
  have hB11 := hB1.mv (X8.warmed.alike.symm.trans X11.warmed.alike) q11
  have c12 : Steps p.tables e below (s₁.setTop (entryFrame m #[.ref a, .ref b, .int (Int32.ofNat o), .int (Int32.ofNat len), .null] 6)) (T11.setTop (mkF m 48 #[.val (.ref a), .val (.ref b), .val (.int (Int32.ofNat o)), .val (.int (Int32.ofNat len)), .val .null, .val (.ref s.heap.size)] [.int 0, .ref a])) := g11
  obtain ⟨T13, X13, p13, bl13, sl13, st13⟩ := X11.finit hexec hown (wk W (.fieldLink "java/lang/String" 15 "java/lang/String" "coder" "B")) (Or.inr ⟨_, (wk W (.laysFinal "java/lang/String" "java/lang/String" "coder" "B"))⟩) (Or.inl ⟨rfl, hnm⟩) f2 (Or.inl rfl) hB11 (t := .byte) (by decide +kernel) rfl (g := (mkF m 48 #[.val (.ref a), .val (.ref b), .val (.int (Int32.ofNat o)), .val (.int (Int32.ofNat len)), .val .null, .val (.ref s.heap.size)] [.int 0, .ref a])) rfl (rest := []) rfl (hb hbytes d48)
  have c14 : Steps p.tables e below (s₁.setTop (entryFrame m #[.ref a, .ref b, .int (Int32.ofNat o), .int (Int32.ofNat len), .null] 6)) (T13.setTop (mkF m 54 #[.val (.ref a), .val (.ref b), .val (.int (Int32.ofNat o)), .val (.int (Int32.ofNat len)), .val .null, .val (.ref s.heap.size)] [.ref s.heap.size, .ref a])) := (c12.trans (st13 _ (Steps.refl _))).trans (by
    refine XS.aloadN X13.here hexec rfl (hb hbytes d51) rfl rfl ?_
    refine XS.aload X13.here hexec rfl (hb hbytes d52) rfl rfl ?_
    exact Steps.refl _)
  obtain ⟨T15, X15, p15, bl15, sl15, st15⟩ := X13.finit hexec hown (wk W (.fieldLink "java/lang/String" 9 "java/lang/String" "value" "[B")) (Or.inr ⟨_, (wk W (.laysFinal "java/lang/String" "java/lang/String" "value" "[B"))⟩) (Or.inl ⟨rfl, hnm⟩) f1 (Or.inl rfl) bl13 (t := (.array .byte)) (by decide +kernel) rfl (g := (mkF m 54 #[.val (.ref a), .val (.ref b), .val (.int (Int32.ofNat o)), .val (.int (Int32.ofNat len)), .val .null, .val (.ref s.heap.size)] [.ref s.heap.size, .ref a])) rfl (rest := []) rfl (hb hbytes d54)
  have c16 : Steps p.tables e below (s₁.setTop (entryFrame m #[.ref a, .ref b, .int (Int32.ofNat o), .int (Int32.ofNat len), .null] 6)) (T15.setTop (mkF m 57 #[.val (.ref a), .val (.ref b), .val (.int (Int32.ofNat o)), .val (.int (Int32.ofNat len)), .val .null, .val (.ref s.heap.size)] [])) := c14.trans (st15 _ (Steps.refl _))
  have ap := apart (Or.inr ⟨_, (wk W (.laysFinal "java/lang/String" "java/lang/String" "value" "[B"))⟩) (Or.inr ⟨_, (wk W (.laysFinal "java/lang/String" "java/lang/String" "coder" "B"))⟩) f1 f2 (t₁ := .array .byte) (t₂ := .byte) (by decide +kernel) (by decide +kernel) (by decide)
  have al := X8.warmed.alike.symm.trans X15.warmed.alike
  have n7 : T11.heap[s.heap.size]? = some N := by rw [q11]; exact n1.1
  exact ⟨T15, none, _, _, _, X15, by simp, rfl, by omega, (fun _ => rfl), ⟨rfl, _, N, bl15, ((Same.refl D _).set _ (by simp)).set _ (by simp), sl15, (Cell.slots_setSlot_ne _ ap).trans sl13, n1.keep al (p15.other hne (p13.other hne n7)), n2, by rw [al.findClass]; exact n3, n4, n5, fun y c h1 h2 => p15.other h1 (p13.other h1 (by rw [q11]; exact n6 y c h2)), by rw [p15.2.2, p13.2.2, q11]; exact z8⟩, fun fs hl => c16.trans (X15.returnOut hexec hret (hb hbytes d57) hl)⟩
end New4
namespace New1
def yN : MethodName := ⟨"java/lang/String", "<init>", "([C)V"⟩
abbrev yB : ByteArray := jdk_42_method_3_code
theorem d0 : decode yB 0 = .ok (.aload_n 0, 1) := by decide +kernel
theorem d1 : decode yB 1 = .ok (.aload_n 1, 1) := by decide +kernel
theorem d2 : decode yB 2 = .ok (.iconst 0, 1) := by decide +kernel
theorem d3 : decode yB 3 = .ok (.aload_n 1, 1) := by decide +kernel
theorem d4 : decode yB 4 = .ok (.arraylength, 1) := by decide +kernel
theorem d5 : decode yB 5 = .ok (.aconst_null, 1) := by decide +kernel
theorem d6 : decode yB 6 = .ok (.invokespecial 27, 3) := by decide +kernel
theorem d9 : decode yB 9 = .ok (.return_, 1) := by decide +kernel
def site : List Cond := [New4.tab] ++ initW "java/lang/String" 27 New4.yN
def tab : Cond := tabOf yN yB 2 none site
def P (a : Addr) (D : Cell) (fV fC : Field) (b : Addr) (A : Cell) (z : Int32) (args : Array Value) (s : State) : Prop := args = #[.ref a, .ref b] ∧ Blank "java/lang/String" a D s ∧ Found "java/lang/String" "value" "[B" fV s ∧ Found "java/lang/String" "coder" "B" fC s ∧ Ch b A s ∧ StaticIs s "java/lang/String" "COMPACT_STRINGS" "Z" (.int z) ∧ ¬ z = 0 ∧ 0 < A.slots.size ∧ A.slots.size ≤ 536870912 ∧ ∀ i, i < A.slots.size → ¬ 255 < cv A i
def E (a : Addr) (D : Cell) (fV fC : Field) (A : Cell) (r : Option Value) (s u : State) : Prop := Got a D fV fC A 0 A.slots.size r s u
/-- new String(chars), not empty, no char above 255: a Latin-1 String of their low bytes -/
theorem law (l : Launch) (a : Addr) (D : Cell) (fV fC : Field) (b : Addr) (A : Cell) (z : Int32) : Law l yN 2 1 3 52 yB 2 none site (P a D fV fC b A z) (E a D fV fC A) [⟨a, fC.slot⟩, ⟨a, fV.slot⟩] 1 A.slots.size := by
  refine Law.of_walk (plainFor_of_name (by decide +kernel)) (by decide +kernel) (by decide +kernel) (by decide) (fun _ _ h => by rw [h.1]; rfl) (fun _ U U' hal hh h => ⟨h.1, h.2.1.mv hal hh, h.2.2.1.al hal, h.2.2.2.1.al hal, h.2.2.2.2.1.mv hal hh, h.2.2.2.2.2.1.there hal hh, h.2.2.2.2.2.2⟩) (fun r U U' V V' h1 hal h2 h => Got.mv r U U' V V' h1 hal h2 h) ?_
  intro p e s m args below meth c s₁ X0 hexec hbytes hml hret hlk hnm hown hh0 W hP
  obtain ⟨rfl, hB, f1, f2, hA, s1, hz, l0, l2, hp⟩ := hP
  have c1 : Steps p.tables e below (s₁.setTop (entryFrame m #[.ref a, .ref b] 2)) (s₁.setTop (mkF m 0 #[.val (.ref a), .val (.ref b)] [])) := entry rfl
  have c2 : Steps p.tables e below (s₁.setTop (entryFrame m #[.ref a, .ref b] 2)) (s₁.setTop (mkF m 6 #[.val (.ref a), .val (.ref b)] [.null, .int (Int32.ofNat A.slots.size), .int 0, .ref b, .ref a])) := c1.trans (by
    refine XS.aloadN X0.here hexec rfl (hb hbytes d0) rfl rfl ?_
    refine XS.aloadN X0.here hexec rfl (hb hbytes d1) rfl rfl ?_
    refine iconstV X0.here hexec rfl 0 (hb hbytes d2) (by decide) ?_
    refine XS.aloadN X0.here hexec rfl (hb hbytes d3) rfl rfl ?_
    refine X0.alen hexec (hA.1.mv X0.warmed.alike hh0) rfl rfl (hb hbytes d4) ?_
    refine XS.aconstNull X0.here hexec rfl (hb hbytes d5) ?_
    exact Steps.refl _)
  obtain ⟨v3, T3, X3, E3, g3⟩ := X0.callN hexec (New4.law l a D fV fC b A z 0 A.slots.size) rfl hown (wks W (initW "java/lang/String" 27 New4.yN)) (W New4.tab (by simp only [site, List.mem_cons, List.mem_append, true_or, or_true])) (W := 0) (Nat.le_of_ble_eq_true rfl) (Nat.le_of_ble_eq_true rfl) (Nat.le_refl _) (by show 0 + A.slots.size ≤ A.slots.size; omega) (g := (mkF m 6 #[.val (.ref a), .val (.ref b)] [.null, .int (Int32.ofNat A.slots.size), .int (Int32.ofNat 0), .ref b, .ref a])) rfl (by rw [hml]; rfl) c2 (argsL := [.ref b, .int (Int32.ofNat 0), .int (Int32.ofNat A.slots.size), .null]) (rest := []) rfl rfl (by show 2 * 0 + 0 ≤ _; decide) (hb hbytes d6) (⟨rfl, hB.mv X0.warmed.alike hh0, f1.al X0.warmed.alike, f2.al X0.warmed.alike, hA.mv X0.warmed.alike hh0, s1.there X0.warmed.alike hh0, hz, l0, by omega, l2, fun i hi => by rw [Nat.zero_add]; exact hp i hi⟩)
  have e0 := Got.mv _ s₁ s _ _ hh0.symm (Vm.Alike.refl _) rfl E3
  obtain rfl := e0.1
  have c4 : Steps p.tables e below (s₁.setTop (entryFrame m #[.ref a, .ref b] 2)) (T3.setTop (mkF m 9 #[.val (.ref a), .val (.ref b)] [])) := g3
  exact ⟨T3, none, _, _, _, X3, by simp, rfl, by omega, (fun _ => rfl), e0, fun fs hl => c4.trans (X3.returnOut hexec hret (hb hbytes d9) hl)⟩
theorem pays {l : Launch} {R : Room} {p : Program} {e : Env} {below : List Frame} {s : State} {sargs : Array Value} {len W : Nat} (a : Addr) (D : Cell) (fV fC : Field) (b : Addr) (A : Cell) (z : Int32) (htab : tab.before sargs s = true) (hfr : 4 ≤ R.frames) (hlo : W + 65 ≤ R.locals) :
    Back l R p e below s sargs yN len W (fun A₁ a₁ => A₁.cells + 1 ≤ R.cells ∧ A₁.slots + A.slots.size ≤ R.slots ∧ P a D fV fC b A z a₁ A₁.U) (fun A₁ _ v₁ B₁ => E a D fV fC A v₁ A₁.U B₁.U ∧ B₁.locs = A₁.locs ++ [⟨a, fC.slot⟩, ⟨a, fV.slot⟩] ∧ B₁.cells = A₁.cells + 1 ∧ B₁.slots = A₁.slots + A.slots.size) :=
  (law l a D fV fC b A z).pays htab hfr (by omega)
end New1
/-- the byte, read back as charAt reads it, is the char -/
theorem lo8_mask {x : Int32} (h0 : ¬ x < 0) (h1 : ¬ 255 < x) : lo8 x &&& 255 = x := by
  have t : ∀ k : Fin 256, lo8 (Int32.ofNat k.val) &&& 255 = Int32.ofNat k.val := by decide +kernel
  rw [Int32.lt_iff_toInt_lt] at h0 h1
  have e0 : (0 : Int32).toInt = 0 := rfl
  have e1 : (255 : Int32).toInt = 255 := rfl
  obtain ⟨k, hk⟩ : ∃ k : Nat, x.toInt = k := ⟨x.toInt.toNat, by omega⟩
  have hx : x = Int32.ofNat k := Int32.toInt_inj.mp (by rw [hk, Int32.toInt_ofNat_small (by omega)])
  rw [hx]
  exact t ⟨k, by omega⟩
end StrChars
namespace StrChars.Road
open Jvm Sem ClassFile Op Lib Jvm.Stand Jvm.Free Jvm.Free.XT
open Jvm.Lib.Cold (StaticIs)
abbrev ST : String := "java/lang/String"
/-- every table word that New1's law asks, flat -/
abbrev words : List Jvm.Cond := [.code New1.yN New1.yB 2 none, .initialized ST, .methodLink ST 27 New4.yN, .instanceMethod New4.yN,
  .code New4.yN New4.yB 6 none, .fieldLink ST 38 ST "COMPACT_STRINGS" "Z", .laysFinal ST ST "value" "[B", .fieldLink ST 9 ST "value" "[B", .laysFinal ST ST "coder" "B", .fieldLink ST 15 ST "coder" "B",
  .methodLink ST 1 Lib.objectInit, .instanceMethod Lib.objectInit, .code Lib.objectInit ⟨#[0xb1]⟩ 1 none, .methodLink ST 177 Cmp3.yN, .static Cmp3.yN, .methodLink ST 47 CodL.yN, .static CodL.yN,
  .code Cmp3.yN Cmp3.yB 6 (some (.array .byte)), .initialized U16, .arrayClass .byte, .methodLink U16 115 Cmp5.yN, .static Cmp5.yN, .code Cmp5.yN Cmp5.yB 7 (some .int), .code CodL.yN CodL.yB 2 (some .byte)]
theorem tab_of {a : Array Value} {s : State} (h : ∀ w ∈ words, w.before a s = true) : New1.tab.before a s = true := by
  have h5 : Cmp5.tab.before a s = true := unparts (wk h (.code Cmp5.yN Cmp5.yB 7 (some .int))) (wks h (.initialized Cmp5.yN.cls :: Cmp5.site))
  have hc : CodL.tab.before a s = true := unparts (wk h (.code CodL.yN CodL.yB 2 (some .byte))) (wks h (.initialized CodL.yN.cls :: CodL.site))
  have q5 : ∀ w ∈ Cmp5.tab :: words, w.before a s = true := fun w hw => (List.mem_cons.mp hw).elim (fun e => e ▸ h5) (h w)
  have h3 : Cmp3.tab.before a s = true := unparts (wk q5 (.code Cmp3.yN Cmp3.yB 6 (some (.array .byte)))) (wks q5 (.initialized Cmp3.yN.cls :: Cmp3.site))
  have q3 : ∀ w ∈ Cmp3.tab :: CodL.tab :: words, w.before a s = true := fun w hw => (List.mem_cons.mp hw).elim (fun e => e ▸ h3) fun hw => (List.mem_cons.mp hw).elim (fun e => e ▸ hc) (h w)
  have h4 : New4.tab.before a s = true := unparts (wk q3 (.code New4.yN New4.yB 6 none)) (wks q3 (.initialized New4.yN.cls :: New4.site))
  have q4 : ∀ w ∈ New4.tab :: words, w.before a s = true := fun w hw => (List.mem_cons.mp hw).elim (fun e => e ▸ h4) (h w)
  exact unparts (wk q4 (.code New1.yN New1.yB 2 none)) (wks q4 (.initialized New1.yN.cls :: New1.site))
/-- the words ride from the start Z to the walk's own state -/
theorem moved {Z s : State} {a0 args : Array Value} (hZ : Z.Warmed39 s.vm) (hw : ∀ d ∈ words, d.before a0 Z = true) : ∀ d ∈ words, d.before args s = true := fun d hd => by
  have q := hw d hd
  have t : ∀ d ∈ words, d = .arrayClass .byte ∨ (d.onTables && d.keepsFace) = true := by decide +kernel
  rcases t d hd with rfl | t
  · exact RoadKit.mvA hZ q
  · exact RoadKit.mv hZ q t
/-- WHAT COMES BACK, over the tables of the start Z: h the heap at the call, h' behind it -/
def Q (Z : State) (x : Addr) (A : Cell) (h : Heap) (v : Option Value) (h' : Heap) (L : List Loc) : Prop := v = none ∧ (∀ y ∈ L, y.base = x) ∧ RoadKit.Keep h h' [x] ∧ h'.size = h.size + 1 ∧ RoadKit.Exa Z h' x ST ∧ RoadKit.Fld Z h' x ST "value" "[B" (.ref h.size) ∧ RoadKit.Fld Z h' x ST "coder" "B" (.int 0) ∧
  (∃ V : Cell, RoadKit.Arr Z h' h.size V .byte ∧ V.vm = .none ∧ Z.vm.findClass "[B" = some V.cls ∧ V.slots.size = A.slots.size ∧ ∀ j, j < A.slots.size → V.slots[j]? = some (.int (lo8 (cv A j)))) ∧
  ∀ (O n d : String) (w : Value), RoadKit.Fld Z h x O n d w → RoadKit.slotOf Z O n d ≠ RoadKit.slotOf Z ST "value" "[B" → RoadKit.slotOf Z O n d ≠ RoadKit.slotOf Z ST "coder" "B" → RoadKit.Fld Z h' x O n d w
/-- **new String(chars) AT A CALL, IN THE ROAD'S FORM**: for specialBack behind newO: x the fresh String, b the char[] with the cell A -/
theorem back {p : Program} {l : Launch} {e : Env} {R : Room} {s : State} {args : Array Value} {below : List Frame} {len W : Nat} {Z : State} {a0 : Array Value} {h : Heap} (hZ : Z.Warmed39 s.vm) (hw : ∀ d ∈ words, d.before a0 Z = true) {kI : Nat} (wi : (Jvm.Cond.instantiable ST kI).before a0 Z = true)
    {x b : Addr} {A : Cell} {z : Int32} {v0 c0 : Value} (E : RoadKit.Exa Z h x ST) (V : RoadKit.Fld Z h x ST "value" "[B" v0) (C : RoadKit.Fld Z h x ST "coder" "B" c0) (K : RoadKit.Arr Z h b A .char) (hty : Typed .char A) (S : RoadKit.Sta Z h ST "COMPACT_STRINGS" "Z" (.int z)) (hz : ¬ z = 0)
    (l0 : 0 < A.slots.size) (l2 : A.slots.size ≤ 536870912) (hp : ∀ i, i < A.slots.size → ¬ 255 < cv A i) (hfr : 4 ≤ R.frames) (hlo : W + 65 ≤ R.locals) :
    Back l R p e below s args New1.yN len W (fun P a => a = #[.ref x, .ref b] ∧ P.U.heap = h ∧ P.cells + 1 ≤ R.cells ∧ P.slots + A.slots.size ≤ R.slots)
      (fun P _ v B => ∃ L, Q Z x A h v B.U.heap L ∧ B.locs = P.locs ++ L ∧ B.cells = P.cells + 1 ∧ B.slots = P.slots + A.slots.size) := by
  intro m meth c P g ig mk a X hg hsize hdg hW hn hp'
  obtain ⟨rfl, rfl, r1, r2⟩ := hp'
  have al : Z.vm.Alike P.U.vm := hZ.alike.trans X.warmed.alike
  obtain ⟨D, cfV, kV, iV, fV, hD, gV, stV, knV, obV, asV, slV⟩ := id V
  obtain ⟨D', cfC, kC, iC, fC, hD', gC, stC, -, -, asC, slC⟩ := id C
  cases hD.symm.trans hD'
  obtain ⟨D2, kD, e1, e2, e3, e4, e5⟩ := id E
  cases hD.symm.trans e1
  obtain ⟨c2, k2, i1, i2, i3, -⟩ := Cond.instantiable_spec wi
  cases e2.symm.trans i1
  cases e3.symm.trans i2
  obtain ⟨kU, u1, u2⟩ := al.2.2 _ _ e3
  have hB : Blank ST x D P.U := ⟨hD, ⟨knV, fun q hq => by rw [hq] at obV; cases obV⟩, by rw [al.findClass]; exact e2, kU, u1, by rw [u2]; exact i3, by rw [u2]; exact e5 i3⟩
  have F1 : Found ST "value" "[B" fV P.U := ⟨SBG.found_only al ⟨cfV, kV, iV, gV⟩, stV⟩
  have F2 : Found ST "coder" "B" fC P.U := ⟨SBG.found_only al ⟨cfC, kC, iC, gC⟩, stC⟩
  have hA : Ch b A P.U := ⟨⟨K.1, State.isArrayOf_alike al K.2.1, K.2.2, by omega⟩, hty⟩
  have hS : StaticIs P.U ST "COMPACT_STRINGS" "Z" (.int z) := by
    obtain ⟨cfS, iS, kS, fS, st, cS, t1, t2, t3, t4, t5, t6, t7⟩ := S
    exact StaticIs.there (s := { Z with heap := P.U.heap }) ⟨cfS, iS, kS, fS, st, cS, t1, t2, t3, t4, t5, (fun q => by rw [q] at t6; cases t6), t7⟩ al rfl
  obtain ⟨v, B, X', ⟨⟨hv, E', V', q1, q2, q3, q4, q5, q6, q7, q8, q9, q10, q11⟩, hl, hc, hs⟩, st⟩ := New1.pays x D fV fC b A z (tab_of (moved hZ hw)) hfr hlo m meth c P g ig mk _ X hg hsize hdg hW hn ⟨r1, r2, rfl, hB, F1, F2, hA, hS, hz, l0, l2, hp⟩
  have al' : Z.vm.Alike B.U.vm := hZ.alike.trans X'.warmed.alike
  have hsz : E'.slots.size = D.slots.size := by
    obtain ⟨-, -, -, kB, w1, w2, w3⟩ := q1
    obtain ⟨kB', y1, y2⟩ := al'.2.2 _ _ e3
    rw [q2.2.1] at w1
    cases w1.symm.trans y1
    rw [w3, e5 i3, y2]
  refine ⟨v, B, X', ⟨_, ⟨hv, ?_, ⟨by omega, fun y cy hy hn' => q10 y cy (by simpa using hn') hy, fun y cy hy => ?_⟩, q11, ⟨E', _, q1.1, by rw [q2.2.1]; exact e2, by rw [q2.2.1]; exact e3, by rw [q2.1]; exact obV, fun _ => by rw [hsz]; exact e5 i3⟩,
    ⟨E', cfV, kV, iV, fV, q1.1, gV, stV, by rw [q2.1]; exact knV, by rw [q2.1]; exact obV, by rw [q2.2.1]; exact asV, q3⟩, ⟨E', cfC, kC, iC, fC, q1.1, gC, stC, by rw [q2.1]; exact knV, by rw [q2.1]; exact obV, by rw [q2.2.1]; exact asC, q4⟩,
    ⟨V', ⟨q5.1, State.isArrayOf_alike al'.symm q5.2.1, q5.2.2.1⟩, q6, by rw [← al'.findClass]; exact q7, q8, fun j hj => by have := q9 j hj; rwa [Nat.zero_add] at this⟩, fun O n d w F n1 n2 => ?_⟩, hl, hc, hs⟩, st⟩
  · intro y hy
    simp only [List.mem_cons, List.not_mem_nil, or_false] at hy
    rcases hy with rfl | rfl <;> rfl
  · by_cases q : y = x
    · subst q
      cases hD.symm.trans hy
      exact ⟨E', q1.1, q2.2.1, q2.1, hsz⟩
    · exact ⟨cy, q10 y cy q hy, rfl, rfl, rfl⟩
  · obtain ⟨D3, cf, k, i, f, g1, g2, g3, g4, g5, g6, g7⟩ := F
    cases hD.symm.trans g1
    simp only [RoadKit.slotOf, g2, gV, gC, Option.map_some, Option.getD_some] at n1 n2
    exact ⟨E', cf, k, i, f, q1.1, g2, g3, by rw [q2.1]; exact g4, by rw [q2.1]; exact g5, by rw [q2.2.1]; exact g6, by rw [q2.2.2 f.slot (by simp [n1, n2])]; exact g7⟩
end StrChars.Road
namespace StrChars.Road
open Jvm Sem ClassFile Op Lib Jvm.Stand Jvm.Free Jvm.Free.XT
/-- WHAT COMES BACK, the byte[] as a list of values -/
def QA (Z : State) (x : Addr) (zn : Int32) (cs : List Int32) (h : Heap) (v : Option Value) (h' : Heap) (L : List Loc) : Prop := v = none ∧ (∀ y ∈ L, y.base = x) ∧ RoadKit.Keep h h' [x] ∧ h'.size = h.size + 1 ∧ RoadKit.Exa Z h' x ST ∧ RoadKit.Fld Z h' x ST "value" "[B" (.ref h.size) ∧ RoadKit.Fld Z h' x ST "coder" "B" (.int 0) ∧
  (∃ kb, Z.vm.findClass "[B" = some kb ∧ RoadKit.Arv Z h' h.size kb .byte zn (cs.map fun c => .int (lo8 c)) (.int 0)) ∧
  ∀ (O n d : String) (w : Value), RoadKit.Fld Z h x O n d w → RoadKit.slotOf Z O n d ≠ RoadKit.slotOf Z ST "value" "[B" → RoadKit.slotOf Z O n d ≠ RoadKit.slotOf Z ST "coder" "B" → RoadKit.Fld Z h' x O n d w
/-- **new String(chars) AT A CALL, THE ARRAYS AS LISTS**: the char[] at b holds cs, not empty, no char above 255 -/
theorem backArv {p : Program} {l : Launch} {e : Env} {R : Room} {s : State} {args : Array Value} {below : List Frame} {len W : Nat} {Z : State} {a0 : Array Value} {h : Heap} (hZ : Z.Warmed39 s.vm) (hw : ∀ d ∈ words, d.before a0 Z = true) {kI : Nat} (wi : (Jvm.Cond.instantiable ST kI).before a0 Z = true)
    {x b : Addr} {k : ClassId} {zn z : Int32} {cs : List Int32} {dv v0 c0 : Value} (E : RoadKit.Exa Z h x ST) (V : RoadKit.Fld Z h x ST "value" "[B" v0) (C : RoadKit.Fld Z h x ST "coder" "B" c0) (K : RoadKit.Arv Z h b k .char zn (cs.map Value.int) dv) (S : RoadKit.Sta Z h ST "COMPACT_STRINGS" "Z" (.int z)) (hz : ¬ z = 0)
    (hlen : zn.toNatClampNeg = cs.length) (h0 : 0 < cs.length) (hbig : cs.length ≤ 536870912) (hall : ∀ c ∈ cs, ¬ 255 < c) (hfr : 4 ≤ R.frames) (hlo : W + 65 ≤ R.locals) :
    Back l R p e below s args New1.yN len W (fun P a => a = #[.ref x, .ref b] ∧ P.U.heap = h ∧ P.cells + 1 ≤ R.cells ∧ P.slots + cs.length ≤ R.slots)
      (fun P _ v B => ∃ L, QA Z x zn cs h v B.U.heap L ∧ B.locs = P.locs ++ L ∧ B.cells = P.cells + 1 ∧ B.slots = P.slots + cs.length) := by
  obtain ⟨A, K1, K2, K3, K4, K5, K6⟩ := K
  have e : A.slots.size = cs.length := K3.trans hlen
  have hat : ∀ (i : Nat) (hi : i < cs.length), A.slots[i]? = some (.int cs[i]) := fun i hi => by rw [K5 i (by omega)]; simp [List.getD_eq_getElem?_getD, hi]
  have hcv : ∀ (i : Nat) (hi : i < cs.length), cv A i = cs[i] := fun i hi => by unfold cv; rw [hat i hi]
  have hty : Typed .char A := fun i v hv => by
    have hi : i < A.slots.size := (Array.getElem?_eq_some_iff.mp hv).1
    have q := K5 i hi
    rw [hv] at q
    rw [Option.some.inj q]
    exact K6 i hi
  refine Back.mono (back hZ hw wi E V C K1 hty S hz (by omega) (by omega) (fun i hi => by rw [hcv i (by omega)]; exact hall _ (List.getElem_mem _)) hfr hlo) (fun P a hp => ⟨hp.1, hp.2.1, hp.2.2.1, by rw [e]; exact hp.2.2.2⟩) (fun P a v B hp hq => ?_)
  obtain ⟨L, ⟨q1, q2, q3, q4, q5, q6, q7, ⟨V', v1, v2, v3, v4, v5⟩, q9⟩, hl, hc, hs⟩ := hq
  refine ⟨L, ⟨q1, q2, q3, q4, q5, q6, q7, ⟨V'.cls, v3, V', v1, rfl, by rw [v4, e, hlen], K4, fun i hi => ?_, fun i hi => ?_⟩, q9⟩, hl, hc, by rw [hs, e]⟩
  · have hi' : i < cs.length := by omega
    rw [v5 i (by omega), hcv i hi']; simp [List.getD_eq_getElem?_getD, hi']
  · have hi' : i < cs.length := by omega
    simp only [List.getD_eq_getElem?_getD, List.getElem?_map, List.getElem?_eq_getElem hi', Option.map_some, Option.getD_some]
    exact fits_lo8 _
end StrChars.Road
namespace StrChars.Road
open Jvm Sem ClassFile Op Lib Jvm.Stand Jvm.Free Jvm.Free.XT
/-- WHAT COMES BACK, in the writer's own shape -/
def QV (Z : State) (x : Addr) (N : Int32) (bs : List Int32) (h : Heap) (n0 : Nat) (v : Option Value) (h' : Heap) (L : List Loc) : Prop := v = none ∧ RoadKit.Fr n0 L ∧ RoadKit.Keep h h' [x] ∧ RoadKit.Exa Z h' x ST ∧ RoadKit.Fld Z h' x ST "coder" "B" (.int 0) ∧
  ∃ (t : Addr) (kb : ClassId), n0 ≤ t ∧ h.size ≤ t ∧ ¬ t = x ∧ RoadKit.Fld Z h' x ST "value" "[B" (.ref t) ∧ RoadKit.Arv Z h' t kb .byte N (bs.map Value.int) (.int 0)
/-- **new String(chars) AT A CALL, FOR THE WRITER**: a char[] of n known ints, each 0 to 255 -/
theorem backV {p : Program} {l : Launch} {e : Env} {R : Room} {s : State} {args : Array Value} {below : List Frame} {len W : Nat} {Z : State} {a0 : Array Value} {h : Heap} (hZ : Z.Warmed39 s.vm) (hw : ∀ d ∈ words, d.before a0 Z = true) {kI : Nat} (wi : (Jvm.Cond.instantiable ST kI).before a0 Z = true)
    {x b : Addr} {kC : ClassId} {cs bs : List Int32} {d v0 c0 : Value} {z N : Int32} {n n0 : Nat} (hx0 : n0 ≤ x) (hh0 : n0 ≤ h.size) (E : RoadKit.Exa Z h x ST) (V : RoadKit.Fld Z h x ST "value" "[B" v0) (C : RoadKit.Fld Z h x ST "coder" "B" c0) (K : RoadKit.Arv Z h b kC .char N (cs.map Value.int) d) (S : RoadKit.Sta Z h ST "COMPACT_STRINGS" "Z" (.int z)) (hz : ¬ z = 0)
    (hn : cs.length = n) (hN : N = Int32.ofNat n) (l0 : 0 < n) (l2 : n ≤ 4000) (hp : ∀ c ∈ cs, ¬ c < 0 ∧ ¬ (255 : Int32) < c) (hb : bs = cs.map (fun c => c.toInt8.toInt32)) (hfr : 4 ≤ R.frames) (hlo : W + 65 ≤ R.locals) :
    Back l R p e below s args (⟨"java/lang/String", "<init>", "([C)V"⟩ : MethodName) len W (fun P a => a = #[.ref x, .ref b] ∧ P.U.heap = h ∧ P.cells + 1 ≤ R.cells ∧ P.slots + n ≤ R.slots)
      (fun P _ v B => ∃ L, QV Z x N bs h n0 v B.U.heap L ∧ B.locs = P.locs ++ L ∧ B.cells = P.cells + 1 ∧ B.slots = P.slots + n) := by
  subst hn hN hb
  refine Back.mono (backArv hZ hw wi E V C K S hz (n32 (by omega)) l0 (by omega) (fun c hc => (hp c hc).2) hfr hlo) (fun P a hp => hp) (fun P a v B hp hq => ?_)
  obtain ⟨L, ⟨q1, q2, q3, q4, q5, q6, q7, ⟨kb, v1, v2⟩, q9⟩, hl, hc, hs⟩ := hq
  exact ⟨L, ⟨q1, fun y hy => by rw [q2 y hy]; exact hx0, q3, q5, q7, h.size, kb, hh0, Nat.le_refl _, Nat.ne_of_gt E.lt, q6, by rw [List.map_map]; exact v2⟩, hl, hc, hs⟩
end StrChars.Road
namespace StrChars
open Jvm Sem ClassFile Op Lib Jvm.Stand Jvm.Free.XT Jvm.Free.ALB Jvm.Free.JM Jvm.Free
open Jvm.Lib.Cold (StaticIs)
def hi8 (x : Int32) : Int32 := lo8 (x >>> ((8 : Int32) &&& 31))
/-- what StringUTF16.getChar makes of two bytes -/
def pairCh (u v : Int32) : Int32 := (((u &&& 255) <<< ((0 : Int32) &&& 31)) ||| ((v &&& 255) <<< ((8 : Int32) &&& 31))).toUInt32.toUInt16.toUInt32.toInt32
theorem lo8_and (x : Int32) : (lo8 x &&& 255).toBitVec.toNat = x.toBitVec.toNat % 256 := by
  have h : (lo8 x).toBitVec = (x.toBitVec.signExtend 8).signExtend 32 := by rw [lo8, Int8.toBitVec_toInt32, Int32.toBitVec_toInt8]
  rw [Int32.toBitVec_and, BitVec.toNat_and, h]
  have e : ((x.toBitVec.signExtend 8).signExtend 32).toNat % 256 = x.toBitVec.toNat % 256 := by
    rw [BitVec.toNat_signExtend]
    have hlt := x.toBitVec.isLt
    simp only [BitVec.toNat_setWidth, BitVec.toNat_signExtend]
    split <;> split <;> omega
  rw [← e]
  exact Nat.and_two_pow_sub_one_eq_mod _ 8
theorem pair_says {c : Int32} (h0 : ¬ c < 0) (h1 : ¬ 65535 < c) : pairCh (lo8 c) (hi8 c) = c := by
  rw [Int32.lt_iff_toInt_lt] at h0 h1
  have e0 : (0 : Int32).toInt = 0 := rfl
  have e1 : (65535 : Int32).toInt = 65535 := rfl
  have hc : c.toInt = c.toBitVec.toNat := by
    have := c.toBitVec.isLt
    have e : c.toInt = c.toBitVec.toInt := rfl
    rw [e] at h0 h1
    rw [e]
    rw [BitVec.toInt_eq_toNat_cond] at h0 h1 ⊢
    split at h0 <;> split <;> omega
  have hn : c.toBitVec.toNat < 65536 := by omega
  have a1 := lo8_and c
  have a2 : (hi8 c &&& 255).toBitVec.toNat = c.toBitVec.toNat / 256 := by
    rw [hi8, lo8_and]
    have e : ((8 : Int32) &&& 31) = 8 := by decide
    rw [e, Int32.toBitVec_shiftRight]
    have e2 : ((8 : Int32).toBitVec.smod 32) = 8#32 := by decide
    rw [e2, BitVec.sshiftRight_eq', BitVec.toNat_sshiftRight_of_msb_false (by rw [BitVec.msb_eq_false_iff_two_mul_lt]; omega)]
    show c.toBitVec.toNat >>> 8 % 256 = _
    rw [Nat.shiftRight_eq_div_pow]
    omega
  unfold pairCh
  apply Int32.toBitVec_inj.mp
  apply BitVec.eq_of_toNat_eq
  have f0 : ((0 : Int32) &&& 31) = 0 := by decide
  have f8 : ((8 : Int32) &&& 31) = 8 := by decide
  rw [f0, f8]
  have g : (((lo8 c &&& 255) <<< (0 : Int32)) ||| ((hi8 c &&& 255) <<< (8 : Int32))).toBitVec.toNat = c.toBitVec.toNat := by
    rw [Int32.toBitVec_or, Int32.toBitVec_shiftLeft, Int32.toBitVec_shiftLeft]
    have s0 : ((0 : Int32).toBitVec.smod 32) = 0#32 := by decide
    have s8 : ((8 : Int32).toBitVec.smod 32) = 8#32 := by decide
    rw [s0, s8, BitVec.toNat_or]
    simp only [BitVec.shiftLeft_eq', BitVec.toNat_shiftLeft, a1, a2]
    show (c.toBitVec.toNat % 256) <<< 0 % 2 ^ 32 ||| (c.toBitVec.toNat / 256) <<< 8 % 2 ^ 32 = _
    rw [Nat.shiftLeft_zero, Nat.mod_eq_of_lt (show c.toBitVec.toNat % 256 < 2 ^ 32 by omega), Nat.mod_eq_of_lt (show (c.toBitVec.toNat / 256) <<< 8 < 2 ^ 32 by rw [Nat.shiftLeft_eq]; omega), Nat.or_comm, ← Nat.shiftLeft_add_eq_or_of_lt (by omega), Nat.shiftLeft_eq]
    omega
  show BitVec.toNat (((((lo8 c &&& 255) <<< (0 : Int32)) ||| ((hi8 c &&& 255) <<< (8 : Int32))).toBitVec.setWidth 16).setWidth 32) = _
  rw [BitVec.toNat_setWidth, BitVec.toNat_setWidth, g]
  omega
end StrChars
namespace StrChars
open Jvm Sem ClassFile Op Lib Jvm.Stand Jvm.Free.XT Jvm.Free.ALB Jvm.Free.JM Jvm.Free
open Jvm.Lib.Cold (StaticIs)
/-- the array's cell V codes the n chars f 0 .. f (n - 1) by the coder cd, as the JDK does: coder 1 just where some char is above 255 -/
def Cod (cd : Int32) (n : Nat) (f : Nat → Int32) (V : Cell) : Prop := (cd = 0 ∧ V.slots.size = n ∧ ∀ j, j < n → V.slots[j]? = some (.int (lo8 (f j))) ∧ ¬ 255 < f j) ∨ (cd = 1 ∧ V.slots.size = 2 * n ∧ (∀ j, j < n → V.slots[2 * j]? = some (.int (lo8 (f j))) ∧ V.slots[2 * j + 1]? = some (.int (hi8 (f j)))) ∧ ∃ j, j < n ∧ 255 < f j)
/-- **x is a String of the n chars f 0 .. f (n - 1)**, Latin-1 or UTF-16; its array at t has the cell V -/
def Txt (x t : Addr) (V : Cell) (cd : Int32) (n : Nat) (f : Nat → Int32) (U : State) : Prop := Exact "java/lang/String" x U ∧ Has x "java/lang/String" "value" "[B" (.ref t) U ∧ Has x "java/lang/String" "coder" "B" (.int cd) U ∧ XT.Arr .byte t V U ∧ Cod cd n f V ∧ ∀ j, j < n → ¬ f j < 0 ∧ ¬ 65535 < f j
theorem Txt.mv {x t : Addr} {V : Cell} {cd : Int32} {n : Nat} {f : Nat → Int32} {U U' : State} (h : Txt x t V cd n f U) (hal : U.vm.Alike U'.vm) (hh : U'.heap = U.heap) : Txt x t V cd n f U' := ⟨h.1.mv hal hh, h.2.1.mv hal hh, h.2.2.1.mv hal hh, h.2.2.2.1.mv hal hh, h.2.2.2.2⟩
end StrChars
namespace StrChars.Road
open Jvm Sem ClassFile Op Lib Jvm.Stand Jvm.Free Jvm.Free.XT
open Jvm.Lib.Cold (StaticIs)
theorem consq {a : Array Value} {s : State} {c : Jvm.Cond} {L : List Jvm.Cond} (h0 : c.before a s = true) (h : ∀ w ∈ L, w.before a s = true) : ∀ w ∈ c :: L, w.before a s = true := fun w hw => (List.mem_cons.mp hw).elim (fun e => e ▸ h0) (h w)
/-- the bytes of the chars cs, low before high -/
def wideBytes : List Int32 → List Value
  | [] => []
  | c :: cs => .int (lo8 c) :: .int (hi8 c) :: wideBytes cs
theorem wide_lo (d : Value) : ∀ (cs : List Int32) (j : Nat), j < cs.length → (wideBytes cs).getD (2 * j) d = .int (lo8 (cs.getD j 0))
  | [], j, h => absurd h (Nat.not_lt_zero j)
  | c :: cs, 0, _ => rfl
  | c :: cs, j + 1, h => by
    have q := wide_lo d cs j (by simpa using h)
    rw [show 2 * (j + 1) = 2 * j + 1 + 1 from by omega]
    simpa [wideBytes] using q
theorem wide_hi (d : Value) : ∀ (cs : List Int32) (j : Nat), j < cs.length → (wideBytes cs).getD (2 * j + 1) d = .int (hi8 (cs.getD j 0))
  | [], j, h => absurd h (Nat.not_lt_zero j)
  | c :: cs, 0, _ => rfl
  | c :: cs, j + 1, h => by
    have q := wide_hi d cs j (by simpa using h)
    rw [show 2 * (j + 1) + 1 = 2 * j + 1 + 1 + 1 from by omega]
    simpa [wideBytes] using q
theorem low_at (d : Value) (cs : List Int32) (j : Nat) (h : j < cs.length) : (cs.map fun c => Value.int (lo8 c)).getD j d = .int (lo8 (cs.getD j 0)) := by
  simp [List.getD_eq_getElem?_getD, h]
/-- an array of N2 bytes vs codes the chars cs by the coder cd -/
def CodA (cs : List Int32) (cd N2 : Int32) (vs : List Value) : Prop := (cd = 0 ∧ N2 = Int32.ofNat cs.length ∧ vs = (cs.map fun c => Value.int (lo8 c)) ∧ ∀ c ∈ cs, ¬ 255 < c) ∨ (cd = 1 ∧ N2 = Int32.ofNat (2 * cs.length) ∧ vs = wideBytes cs ∧ ∃ c ∈ cs, 255 < c)
theorem CodA.cod {cs : List Int32} {cd N2 : Int32} {vs : List Value} {V : Cell} (h : CodA cs cd N2 vs) (hn : 2 * cs.length < 2 ^ 31) (hs : V.slots.size = N2.toNatClampNeg) (hv : RoadKit.Has V vs (.int 0)) : Cod cd cs.length (fun j => cs.getD j 0) V := by
  rcases h with ⟨rfl, rfl, rfl, h⟩ | ⟨rfl, rfl, rfl, c, hc, hw⟩
  · rw [n32 (by omega)] at hs
    exact Or.inl ⟨rfl, hs, fun j hj => ⟨by rw [hv j (by omega), low_at _ _ _ hj], by
      have e : cs.getD j 0 = cs[j] := by simp [List.getD_eq_getElem?_getD, hj]
      show ¬ 255 < cs.getD j 0
      rw [e]; exact h _ (List.getElem_mem _)⟩⟩
  · rw [n32 (by omega)] at hs
    obtain ⟨j, hj, rfl⟩ := List.getElem_of_mem hc
    exact Or.inr ⟨rfl, hs, fun j hj => ⟨by rw [hv _ (by omega), wide_lo _ _ _ hj], by rw [hv _ (by omega), wide_hi _ _ _ hj]⟩, j, hj, by
      have e : cs.getD j 0 = cs[j] := by simp [List.getD_eq_getElem?_getD, hj]
      show 255 < cs.getD j 0
      rw [e]; exact hw⟩
/-- an object of exactly java/lang/String, its two fields found: as the laws ask it -/
theorem strObj {Z U : State} {a0 : Array Value} {kI : Nat} (wi : (Jvm.Cond.instantiable ST kI).before a0 Z = true) (al : Z.vm.Alike U.vm) {x : Addr} {v0 c0 : Value} (E : RoadKit.Exa Z U.heap x ST) (V : RoadKit.Fld Z U.heap x ST "value" "[B" v0) (C : RoadKit.Fld Z U.heap x ST "coder" "B" c0) :
    ∃ (D : Cell) (fV fC : Field), Blank ST x D U ∧ Found ST "value" "[B" fV U ∧ Found ST "coder" "B" fC U ∧ D.slots[fV.slot]? = some v0 ∧ D.slots[fC.slot]? = some c0 ∧ RoadKit.slotOf Z ST "value" "[B" = fV.slot ∧ RoadKit.slotOf Z ST "coder" "B" = fC.slot := by
  obtain ⟨D, cfV, kV, iV, fV, hD, gV, stV, knV, obV, asV, slV⟩ := V
  obtain ⟨D', cfC, kC, iC, fC, hD', gC, stC, -, -, asC, slC⟩ := C
  cases hD.symm.trans hD'
  obtain ⟨D2, kD, e1, e2, e3, e4, e5⟩ := E
  cases hD.symm.trans e1
  obtain ⟨c2, k2, i1, i2, i3, -⟩ := Cond.instantiable_spec wi
  cases e2.symm.trans i1
  cases e3.symm.trans i2
  obtain ⟨kU, u1, u2⟩ := al.2.2 _ _ e3
  exact ⟨D, fV, fC, ⟨hD, ⟨knV, fun q hq => by rw [hq] at obV; cases obV⟩, by rw [al.findClass]; exact e2, kU, u1, by rw [u2]; exact i3, by rw [u2]; exact e5 i3⟩, ⟨SBG.found_only al ⟨cfV, kV, iV, gV⟩, stV⟩, ⟨SBG.found_only al ⟨cfC, kC, iC, gC⟩, stC⟩, slV, slC, by simp [RoadKit.slotOf, gV], by simp [RoadKit.slotOf, gC]⟩
theorem sta_is {Z U : State} (al : Z.vm.Alike U.vm) {C n d : String} {v : Value} (S : RoadKit.Sta Z U.heap C n d v) : StaticIs U C n d v := by
  obtain ⟨cfS, iS, kS, fS, st, cS, t1, t2, t3, t4, t5, t6, t7⟩ := S
  exact StaticIs.there (s := { Z with heap := U.heap }) ⟨cfS, iS, kS, fS, st, cS, t1, t2, t3, t4, t5, (fun q => by rw [q] at t6; cases t6), t7⟩ al rfl
end StrChars.Road
namespace StrChars
open Jvm Sem ClassFile Op Lib Jvm.Stand Jvm.Free.XT Jvm.Free.ALB Jvm.Free.JM Jvm.Free
open Jvm.Lib.Cold (StaticIs)
/-- what place i of a byte[]'s cell holds -/
def yv (A : Cell) (i : Nat) : Int32 := match A.slots[i]? with | some (.int x) => x | _ => 0
theorem yv_get {a : Addr} {A : Cell} {U : State} (h : XT.Arr .byte a A U) (ht : Typed .byte A) {i : Nat} (hi : i < A.slots.size) : A.slots[i]? = some (.int (yv A i)) := by
  have e := Array.getElem?_eq_getElem hi
  have f := ht i _ e
  unfold yv; rw [e]
  generalize A.slots[i] = v at f
  cases v <;> simp [fits] at f ⊢
/-- the two arrays are equal, place for place -/
def EqC (A B : Cell) : Prop := A.slots.size = B.slots.size ∧ ∀ i, i < A.slots.size → yv A i = yv B i
/-- a boolean that says whether p -/
def Says01 (q : Prop) (r : Option Value) (s u : State) : Prop := ∃ v : Int32, r = some (.int v) ∧ u.heap = s.heap ∧ ((v = 1 ∧ q) ∨ (v = 0 ∧ ¬ q))
theorem Says01.mv {q : Prop} : ∀ r (U U' V V' : State), U'.heap = U.heap → V.vm.Alike V'.vm → V'.heap = V.heap → Says01 q r U V → Says01 q r U' V' :=
  fun r U U' V V' h1 _ h2 ⟨v, a, b, c⟩ => ⟨v, a, by rw [h1, h2]; exact b, c⟩
namespace LEq
def yN : MethodName := ⟨"java/lang/StringLatin1", "equals", "([B[B)Z"⟩
abbrev yB : ByteArray := jdk_43_method_13_code
theorem d0 : decode yB 0 = .ok (.aload_n 0, 1) := by decide +kernel
theorem d1 : decode yB 1 = .ok (.arraylength, 1) := by decide +kernel
theorem d2 : decode yB 2 = .ok (.aload_n 1, 1) := by decide +kernel
theorem d3 : decode yB 3 = .ok (.arraylength, 1) := by decide +kernel
theorem d4 : decode yB 4 = .ok (.if_icmp (.ne) 30, 3) := by decide +kernel
theorem d7 : decode yB 7 = .ok (.iconst 0, 1) := by decide +kernel
theorem d8 : decode yB 8 = .ok (.istore_n 2, 1) := by decide +kernel
theorem d9 : decode yB 9 = .ok (.iload_n 2, 1) := by decide +kernel
theorem d10 : decode yB 10 = .ok (.aload_n 0, 1) := by decide +kernel
theorem d11 : decode yB 11 = .ok (.arraylength, 1) := by decide +kernel
theorem d12 : decode yB 12 = .ok (.if_icmp (.ge) 20, 3) := by decide +kernel
theorem d15 : decode yB 15 = .ok (.aload_n 0, 1) := by decide +kernel
theorem d16 : decode yB 16 = .ok (.iload_n 2, 1) := by decide +kernel
theorem d17 : decode yB 17 = .ok (.baload, 1) := by decide +kernel
theorem d18 : decode yB 18 = .ok (.aload_n 1, 1) := by decide +kernel
theorem d19 : decode yB 19 = .ok (.iload_n 2, 1) := by decide +kernel
theorem d20 : decode yB 20 = .ok (.baload, 1) := by decide +kernel
theorem d21 : decode yB 21 = .ok (.if_icmp (.eq) 5, 3) := by decide +kernel
theorem d24 : decode yB 24 = .ok (.iconst 0, 1) := by decide +kernel
theorem d25 : decode yB 25 = .ok (.ireturn, 1) := by decide +kernel
theorem d26 : decode yB 26 = .ok (.iinc 2 1, 3) := by decide +kernel
theorem d29 : decode yB 29 = .ok (.goto (-20), 3) := by decide +kernel
theorem d32 : decode yB 32 = .ok (.iconst 1, 1) := by decide +kernel
theorem d33 : decode yB 33 = .ok (.ireturn, 1) := by decide +kernel
theorem d34 : decode yB 34 = .ok (.iconst 0, 1) := by decide +kernel
theorem d35 : decode yB 35 = .ok (.ireturn, 1) := by decide +kernel
def site : List Cond := []
def tab : Cond := tabOf yN yB 3 (some .boolean) site
def P (a : Addr) (A : Cell) (b : Addr) (B : Cell) (args : Array Value) (s : State) : Prop := args = #[.ref a, .ref b] ∧ XT.Arr .byte a A s ∧ Typed .byte A ∧ XT.Arr .byte b B s ∧ Typed .byte B
/-- whether two byte[] are equal, place for place -/
theorem law (l : Launch) (a : Addr) (A : Cell) (b : Addr) (B : Cell) : Law l yN 2 2 0 0 yB 3 (some .boolean) site (P a A b B) (Says01 (EqC A B)) [] 0 0 := by
  refine Law.of_walk (plainFor_of_name (by decide +kernel)) (by decide +kernel) (by decide +kernel) (by decide) (fun _ _ h => by rw [h.1]; rfl) (fun _ U U' hal hh h => ⟨h.1, h.2.1.mv hal hh, h.2.2.1, h.2.2.2.1.mv hal hh, h.2.2.2.2⟩) (fun r U U' V V' h1 hal h2 h => Says01.mv r U U' V V' h1 hal h2 h) ?_
  intro p e s m args below meth c s₁ X0 hexec hbytes hml hret hlk hnm hown hh0 W hP
  obtain ⟨rfl, hA, tA, hB, tB⟩ := hP
  have a31 := hA.2.2.2
  have b31 := hB.2.2.2
  have hA0 := hA.mv X0.warmed.alike hh0
  have hB0 := hB.mv X0.warmed.alike hh0
  have c1 : Steps p.tables e below (s₁.setTop (entryFrame m #[.ref a, .ref b] 3)) (s₁.setTop (mkF m 0 #[.val (.ref a), .val (.ref b), .unset] [])) := entry rfl
  have c2 : Steps p.tables e below (s₁.setTop (entryFrame m #[.ref a, .ref b] 3)) (s₁.setTop (mkF m 4 #[.val (.ref a), .val (.ref b), .unset] [.int (Int32.ofNat B.slots.size), .int (Int32.ofNat A.slots.size)])) := c1.trans (by
    refine XS.aloadN X0.here hexec rfl (hb hbytes d0) rfl rfl ?_
    refine X0.alen hexec hA0 rfl rfl (hb hbytes d1) ?_
    refine XS.aloadN X0.here hexec rfl (hb hbytes d2) rfl rfl ?_
    refine X0.alen hexec hB0 rfl rfl (hb hbytes d3) ?_
    exact Steps.refl _)
  by_cases hs : A.slots.size = B.slots.size
  · have c3 : Steps p.tables e below (s₁.setTop (entryFrame m #[.ref a, .ref b] 3)) (s₁.setTop (mkF m 9 #[.val (.ref a), .val (.ref b), .val (.int 0)] [])) := c2.trans (by
      refine XS.icmpNo X0.here hexec rfl (hb hbytes d4) rfl (ii_ne_f (by rw [hs])) ?_
      refine iconstV X0.here hexec rfl 0 (hb hbytes d7) (by decide) ?_
      refine XS.istoreN X0.here hexec rfl (hb hbytes d8) rfl rfl ?_
      exact Steps.refl _)
    have loop : ∀ (r i : Nat), i + r = A.slots.size → (∀ j, j < i → yv A j = yv B j) → Steps p.tables e below (s₁.setTop (entryFrame m #[.ref a, .ref b] 3)) (s₁.setTop (mkF m 9 #[.val (.ref a), .val (.ref b), .val (.int (Int32.ofNat i))] [])) → ∃ (pc : Nat) (Ls : Array Slot) (v : Int32), (pc = 25 ∨ pc = 33) ∧ ((v = 1 ∧ EqC A B) ∨ (v = 0 ∧ ¬ EqC A B)) ∧ Steps p.tables e below (s₁.setTop (entryFrame m #[.ref a, .ref b] 3)) (s₁.setTop (mkF m pc Ls [.int v])) := by
      intro r
      induction r with
      | zero =>
        intro i hi he cl
        exact ⟨33, _, 1, Or.inr rfl, Or.inl ⟨rfl, hs, fun j hj => he j (by omega)⟩, cl.trans (by
          refine XS.iloadN X0.here hexec rfl (hb hbytes d9) rfl ?_
          refine XS.aloadN X0.here hexec rfl (hb hbytes d10) rfl rfl ?_
          refine X0.alen hexec hA0 rfl rfl (hb hbytes d11) ?_
          refine XS.icmpYes X0.here hexec rfl (pc0 := 12) rfl (hb hbytes d12) rfl (ii_ge_t (nlt32 (by omega) (by omega))) (by decide) rfl ?_
          refine iconstV X0.here hexec rfl 1 (hb hbytes d32) (by decide) ?_
          exact Steps.refl _)⟩
      | succ r ih =>
        intro i hi he cl
        have c4 : Steps p.tables e below (s₁.setTop (entryFrame m #[.ref a, .ref b] 3)) (s₁.setTop (mkF m 21 #[.val (.ref a), .val (.ref b), .val (.int (Int32.ofNat i))] [.int (yv B i), .int (yv A i)])) := cl.trans (by
          refine XS.iloadN X0.here hexec rfl (hb hbytes d9) rfl ?_
          refine XS.aloadN X0.here hexec rfl (hb hbytes d10) rfl rfl ?_
          refine X0.alen hexec hA0 rfl rfl (hb hbytes d11) ?_
          refine XS.icmpNo X0.here hexec rfl (hb hbytes d12) rfl (ii_ge_f (lt32 (by omega) (by omega))) ?_
          refine XS.aloadN X0.here hexec rfl (hb hbytes d15) rfl rfl ?_
          refine XS.iloadN X0.here hexec rfl (hb hbytes d16) rfl ?_
          refine X0.aget hexec hA0 rfl (yv_get hA tA (i := i) (by omega)) rfl rfl (hb hbytes d17) ?_
          refine XS.aloadN X0.here hexec rfl (hb hbytes d18) rfl rfl ?_
          refine XS.iloadN X0.here hexec rfl (hb hbytes d19) rfl ?_
          refine X0.aget hexec hB0 rfl (yv_get hB tB (i := i) (by omega)) rfl rfl (hb hbytes d20) ?_
          exact Steps.refl _)
        by_cases hv : yv A i = yv B i
        · have c5 : Steps p.tables e below (s₁.setTop (entryFrame m #[.ref a, .ref b] 3)) (s₁.setTop (mkF m 9 #[.val (.ref a), .val (.ref b), .val (.int (Int32.ofNat i + 1))] [])) := c4.trans (by
            refine XS.icmpYes X0.here hexec rfl (pc0 := 21) rfl (hb hbytes d21) rfl (ii_eq_t hv) (by decide) rfl ?_
            refine iincV X0.here hexec rfl 1 (hb hbytes d26) (by decide) rfl rfl ?_
            refine XS.goto X0.here hexec rfl (pc0 := 29) rfl (hb hbytes d29) (by decide) rfl ?_
            exact Steps.refl _)
          rw [succ32] at c5
          exact ih (i + 1) (by omega) (fun j hj => by
            by_cases e : j = i
            · rw [e]; exact hv
            · exact he j (by omega)) c5
        · exact ⟨25, _, 0, Or.inl rfl, Or.inr ⟨rfl, fun q => hv (q.2 i (by omega))⟩, c4.trans (by
            refine XS.icmpNo X0.here hexec rfl (hb hbytes d21) rfl (ii_eq_f hv) ?_
            refine iconstV X0.here hexec rfl 0 (hb hbytes d24) (by decide) ?_
            exact Steps.refl _)⟩
    obtain ⟨pc, Ls, v, hpc, hv, cz⟩ := loop A.slots.size 0 (by omega) (fun j hj => absurd hj (Nat.not_lt_zero j)) c3
    have nv : narrow .boolean (.int v) = .int v := by rcases hv with ⟨rfl, -⟩ | ⟨rfl, -⟩ <;> rfl
    rcases hpc with rfl | rfl
    · exact ⟨s₁, some (.int v), _, _, _, X0, rfl, rfl, rfl, (fun h => by cases h), ⟨v, rfl, hh0, hv⟩, fun fs hl => cz.trans (X0.ireturnOut hexec hret nv (Or.inr (Or.inl rfl)) (hb hbytes d25) hl)⟩
    · exact ⟨s₁, some (.int v), _, _, _, X0, rfl, rfl, rfl, (fun h => by cases h), ⟨v, rfl, hh0, hv⟩, fun fs hl => cz.trans (X0.ireturnOut hexec hret nv (Or.inr (Or.inl rfl)) (hb hbytes d33) hl)⟩
  · have c3 : Steps p.tables e below (s₁.setTop (entryFrame m #[.ref a, .ref b] 3)) (s₁.setTop (mkF m 35 #[.val (.ref a), .val (.ref b), .unset] [.int 0])) := c2.trans (by
      refine XS.icmpYes X0.here hexec rfl (pc0 := 4) rfl (hb hbytes d4) rfl (ii_ne_t (ne32 a31 b31 hs)) (by decide) rfl ?_
      refine iconstV X0.here hexec rfl 0 (hb hbytes d34) (by decide) ?_
      exact Steps.refl _)
    exact ⟨s₁, some (.int 0), _, _, _, X0, rfl, rfl, rfl, (fun h => by cases h), ⟨0, rfl, hh0, Or.inr ⟨rfl, fun q => hs q.1⟩⟩, fun fs hl => c3.trans (X0.ireturnOut hexec hret rfl (Or.inr (Or.inl rfl)) (hb hbytes d35) hl)⟩
end LEq
theorem Cod.ty {cd : Int32} {n : Nat} {f : Nat → Int32} {V : Cell} (h : Cod cd n f V) : Typed .byte V := fun i v hv => by
  have hi : i < V.slots.size := (Array.getElem?_eq_some_iff.mp hv).1
  rcases h with ⟨-, k1, k2⟩ | ⟨-, k1, k2, -⟩
  · rw [(k2 i (by omega)).1] at hv; cases hv; exact fits_lo8 _
  · rcases Nat.mod_two_eq_zero_or_one i with e | e
    · obtain ⟨j, rfl⟩ : ∃ j, i = 2 * j := ⟨i / 2, by omega⟩
      rw [(k2 j (by omega)).1] at hv; cases hv; exact fits_lo8 _
    · obtain ⟨j, rfl⟩ : ∃ j, i = 2 * j + 1 := ⟨i / 2, by omega⟩
      rw [(k2 j (by omega)).2] at hv; cases hv; exact fits_lo8 _
/-- the same text -/
def SameT (n : Nat) (f : Nat → Int32) (k : Nat) (g : Nat → Int32) : Prop := n = k ∧ ∀ j, j < n → f j = g j
theorem lo8_inj {x y : Int32} (h0 : ¬ x < 0) (h1 : ¬ 255 < x) (k0 : ¬ y < 0) (k1 : ¬ 255 < y) (h : lo8 x = lo8 y) : x = y := by
  rw [← lo8_mask h0 h1, ← lo8_mask k0 k1, h]
/-- arrays coded by one coder are equal just where the texts are -/
theorem Cod.eqv {cd : Int32} {n k : Nat} {f g : Nat → Int32} {V V' : Cell} (h : Cod cd n f V) (h' : Cod cd k g V') (hf : ∀ j, j < n → ¬ f j < 0 ∧ ¬ 65535 < f j) (hg : ∀ j, j < k → ¬ g j < 0 ∧ ¬ 65535 < g j) : EqC V V' ↔ SameT n f k g := by
  have yvv : ∀ {W : Cell} {i : Nat} {x : Int32}, W.slots[i]? = some (.int x) → yv W i = x := fun q => by unfold yv; rw [q]
  rcases h with ⟨rfl, k1, k2⟩ | ⟨rfl, k1, k2, -⟩
  · rcases h' with ⟨-, m1, m2⟩ | ⟨e, -⟩
    · constructor
      · rintro ⟨e1, e2⟩
        refine ⟨by omega, fun j hj => ?_⟩
        have q := e2 j (by omega)
        rw [yvv (k2 j hj).1, yvv (m2 j (by omega)).1] at q
        exact lo8_inj (hf j hj).1 (k2 j hj).2 (hg j (by omega)).1 (m2 j (by omega)).2 q
      · rintro ⟨rfl, e2⟩
        refine ⟨by omega, fun j hj => ?_⟩
        rw [yvv (k2 j (by omega)).1, yvv (m2 j (by omega)).1, e2 j (by omega)]
    · exact absurd e (by decide)
  · rcases h' with ⟨e, -⟩ | ⟨-, m1, m2, -⟩
    · exact absurd e (by decide)
    · constructor
      · rintro ⟨e1, e2⟩
        refine ⟨by omega, fun j hj => ?_⟩
        have q1 := e2 (2 * j) (by omega)
        have q2 := e2 (2 * j + 1) (by omega)
        rw [yvv (k2 j hj).1, yvv (m2 j (by omega)).1] at q1
        rw [yvv (k2 j hj).2, yvv (m2 j (by omega)).2] at q2
        rw [← pair_says (hf j hj).1 (hf j hj).2, ← pair_says (hg j (by omega)).1 (hg j (by omega)).2, q1, q2]
      · rintro ⟨rfl, e2⟩
        refine ⟨by omega, fun i hi => ?_⟩
        rcases Nat.mod_two_eq_zero_or_one i with e | e
        · obtain ⟨j, rfl⟩ : ∃ j, i = 2 * j := ⟨i / 2, by omega⟩
          rw [yvv (k2 j (by omega)).1, yvv (m2 j (by omega)).1, e2 j (by omega)]
        · obtain ⟨j, rfl⟩ : ∃ j, i = 2 * j + 1 := ⟨i / 2, by omega⟩
          rw [yvv (k2 j (by omega)).2, yvv (m2 j (by omega)).2, e2 j (by omega)]
/-- two codings differ: so do the texts -/
theorem Cod.dif {cd cd' : Int32} {n k : Nat} {f g : Nat → Int32} {V V' : Cell} (h : Cod cd n f V) (h' : Cod cd' k g V') (hne : ¬ cd = cd') : ¬ SameT n f k g := by
  rintro ⟨rfl, e⟩
  rcases h with ⟨rfl, -, k2⟩ | ⟨rfl, -, -, j, hj, hw⟩
  · rcases h' with ⟨rfl, -⟩ | ⟨-, -, -, j, hj, hw⟩
    · exact hne rfl
    · exact (k2 j hj).2 (by rw [e j hj]; exact hw)
  · rcases h' with ⟨-, -, m2⟩ | ⟨rfl, -⟩
    · exact (m2 j hj).2 (by rw [← e j hj]; exact hw)
    · exact hne rfl
/-- an object of exactly C is an instance of C -/
theorem cinst {p : Program} {l : Launch} {e : Env} {R : Room} {s : State} {m : MethodId} {args : Array Value} {below : List Frame} {meth : Method} {c : Code} {T : State} {locs : List Loc} {cells slots : Nat} (X : Stand p l e R s m args below meth c T locs cells slots) (hexec : p.tables.exec = Jvm.exec) {own C : String} {index : Nat} (hown : s.vm.findClass own = some m.cls) (hlink : (Cond.classLink own index C).before args s = true) {a : Addr} (hE : Exact C a T)
    {g : JFrame} (hg : g.method = m) {rest : List Value} (hstack : g.stack = .ref a :: rest) (hdg : decode c.code g.pc = .ok (.instanceof index, 3)) :
    ∃ T', Stand p l e R s m args below meth c T' locs cells slots ∧ T'.heap = T.heap ∧ ∀ target, Steps p.tables e below (T'.setTop { g with pc := g.pc + 3, stack := .int 1 :: rest }) target → Steps p.tables e below (T.setTop g) target := by
  obtain ⟨cB, h1, D, h2, h3, h4⟩ := hE
  have h1' : s.vm.findClass C = some cB := by rw [← X.warmed.alike.findClass]; exact h1
  obtain ⟨vm', X', st⟩ := X.instanceofYes hexec hown hlink h2 h4 h1' (by rw [h3]; exact Jvm.Free.SB.assignable_self _ _) hg hstack hdg
  exact ⟨_, X', rfl, st⟩
theorem cself {p : Program} {l : Launch} {e : Env} {R : Room} {s : State} {m : MethodId} {args : Array Value} {below : List Frame} {meth : Method} {c : Code} {T : State} {locs : List Loc} {cells slots : Nat} (X : Stand p l e R s m args below meth c T locs cells slots) (hexec : p.tables.exec = Jvm.exec) {own C : String} {index : Nat} (hown : s.vm.findClass own = some m.cls) (hlink : (Cond.classLink own index C).before args s = true) {a : Addr} (hE : Exact C a T)
    {g : JFrame} (hg : g.method = m) {rest : List Value} (hstack : g.stack = .ref a :: rest) (hdg : decode c.code g.pc = .ok (.checkcast index, 3)) :
    ∃ T', Stand p l e R s m args below meth c T' locs cells slots ∧ T'.heap = T.heap ∧ ∀ target, Steps p.tables e below (T'.setTop { g with pc := g.pc + 3, stack := .ref a :: rest }) target → Steps p.tables e below (T.setTop g) target := by
  obtain ⟨cB, h1, D, h2, h3, h4⟩ := hE
  have h1' : s.vm.findClass C = some cB := by rw [← X.warmed.alike.findClass]; exact h1
  obtain ⟨vm', X', st⟩ := X.checkcastYes hexec hown hlink h2 h4 h1' (by rw [h3]; exact Jvm.Free.SB.assignable_self _ _) hg hstack hdg
  exact ⟨_, X', rfl, fun t h => st t (by rw [← hstack] at h; exact h)⟩
namespace SEq
def yN : MethodName := ⟨"java/lang/String", "equals", "(Ljava/lang/Object;)Z"⟩
abbrev yB : ByteArray := jdk_42_method_66_code
theorem d0 : decode yB 0 = .ok (.aload_n 0, 1) := by decide +kernel
theorem d1 : decode yB 1 = .ok (.aload_n 1, 1) := by decide +kernel
theorem d2 : decode yB 2 = .ok (.if_acmp (.ne) 5, 3) := by decide +kernel
theorem d5 : decode yB 5 = .ok (.iconst 1, 1) := by decide +kernel
theorem d6 : decode yB 6 = .ok (.ireturn, 1) := by decide +kernel
theorem d7 : decode yB 7 = .ok (.aload_n 1, 1) := by decide +kernel
theorem d8 : decode yB 8 = .ok (.instanceof 10, 3) := by decide +kernel
theorem d11 : decode yB 11 = .ok (.ifCond (.eq) 43, 3) := by decide +kernel
theorem d14 : decode yB 14 = .ok (.aload_n 1, 1) := by decide +kernel
theorem d15 : decode yB 15 = .ok (.checkcast 10, 3) := by decide +kernel
theorem d18 : decode yB 18 = .ok (.astore_n 2, 1) := by decide +kernel
theorem d19 : decode yB 19 = .ok (.getstatic 38, 3) := by decide +kernel
theorem d22 : decode yB 22 = .ok (.ifCond (.eq) 14, 3) := by decide +kernel
theorem d25 : decode yB 25 = .ok (.aload_n 0, 1) := by decide +kernel
theorem d26 : decode yB 26 = .ok (.getfield 15, 3) := by decide +kernel
theorem d29 : decode yB 29 = .ok (.aload_n 2, 1) := by decide +kernel
theorem d30 : decode yB 30 = .ok (.getfield 15, 3) := by decide +kernel
theorem d33 : decode yB 33 = .ok (.if_icmp (.ne) 21, 3) := by decide +kernel
theorem d36 : decode yB 36 = .ok (.aload_n 0, 1) := by decide +kernel
theorem d37 : decode yB 37 = .ok (.getfield 9, 3) := by decide +kernel
theorem d40 : decode yB 40 = .ok (.aload_n 2, 1) := by decide +kernel
theorem d41 : decode yB 41 = .ok (.getfield 9, 3) := by decide +kernel
theorem d44 : decode yB 44 = .ok (.invokestatic 541, 3) := by decide +kernel
theorem d47 : decode yB 47 = .ok (.ifCond (.eq) 7, 3) := by decide +kernel
theorem d50 : decode yB 50 = .ok (.iconst 1, 1) := by decide +kernel
theorem d51 : decode yB 51 = .ok (.goto 4, 3) := by decide +kernel
theorem d54 : decode yB 54 = .ok (.iconst 0, 1) := by decide +kernel
theorem d55 : decode yB 55 = .ok (.ireturn, 1) := by decide +kernel
def site : List Cond := [.classLink "java/lang/String" 10 "java/lang/String", .fieldLink "java/lang/String" 38 "java/lang/String" "COMPACT_STRINGS" "Z", .fieldLink "java/lang/String" 15 "java/lang/String" "coder" "B", .fieldLink "java/lang/String" 9 "java/lang/String" "value" "[B", LEq.tab] ++ staticW "java/lang/String" 541 LEq.yN
def tab : Cond := tabOf yN yB 3 (some .boolean) site
def P (x t : Addr) (V : Cell) (cd : Int32) (n : Nat) (f : Nat → Int32) (y t' : Addr) (V' : Cell) (cd' : Int32) (k : Nat) (g : Nat → Int32) (z : Int32) (args : Array Value) (s : State) : Prop := args = #[.ref x, .ref y] ∧ Txt x t V cd n f s ∧ Txt y t' V' cd' k g s ∧ StaticIs s "java/lang/String" "COMPACT_STRINGS" "Z" (.int z) ∧ ¬ z = 0
/-- equals(Object) of two Strings: whether the texts are the same -/
theorem law (l : Launch) (x t : Addr) (V : Cell) (cd : Int32) (n : Nat) (f : Nat → Int32) (y t' : Addr) (V' : Cell) (cd' : Int32) (k : Nat) (g : Nat → Int32) (z : Int32) : Law l yN 2 1 1 14 yB 3 (some .boolean) site (P x t V cd n f y t' V' cd' k g z) (Says01 (SameT n f k g)) [] 0 0 := by
  refine Law.of_walk (plainFor_of_name (by decide +kernel)) (by decide +kernel) (by decide +kernel) (by decide) (fun _ _ h => by rw [h.1]; rfl) (fun _ U U' hal hh h => ⟨h.1, h.2.1.mv hal hh, h.2.2.1.mv hal hh, h.2.2.2.1.there hal hh, h.2.2.2.2⟩) (fun r U U' V V' h1 hal h2 h => Says01.mv r U U' V V' h1 hal h2 h) ?_
  intro p e s m args below meth c s₁ X0 hexec hbytes hml hret hlk hnm hown hh0 W hP
  obtain ⟨rfl, hx, hy, s1, hz⟩ := hP
  have c1 : Steps p.tables e below (s₁.setTop (entryFrame m #[.ref x, .ref y] 3)) (s₁.setTop (mkF m 2 #[.val (.ref x), .val (.ref y), .unset] [.ref y, .ref x])) := Steps.trans (entry rfl) (by
    show Steps p.tables e below (s₁.setTop (mkF m 0 #[.val (.ref x), .val (.ref y), .unset] [])) _
    refine XS.aloadN X0.here hexec rfl (hb hbytes d0) rfl rfl ?_
    refine XS.aloadN X0.here hexec rfl (hb hbytes d1) rfl rfl ?_
    exact Steps.refl _)
  by_cases hxy : x = y
  · have c2 : Steps p.tables e below (s₁.setTop (entryFrame m #[.ref x, .ref y] 3)) (s₁.setTop (mkF m 6 #[.val (.ref x), .val (.ref y), .unset] [.int 1])) := c1.trans (by
      refine acmpNo X0.here hexec rfl (hb hbytes d2) rfl rfl rfl (by simp [acmp, hxy]) ?_
      refine iconstV X0.here hexec rfl 1 (hb hbytes d5) (by decide) ?_
      exact Steps.refl _)
    subst hxy
    have ec : cd = cd' := by
      obtain ⟨D, fd, a1, a2, a3⟩ := hx.2.2.1
      obtain ⟨D', fd', b1, b2, b3⟩ := hy.2.2.1
      cases a1.symm.trans b1
      obtain ⟨q1, q2, q3, q4⟩ := a2.1
      obtain ⟨r1, r2, r3, r4⟩ := b2.1
      cases q4.symm.trans r4
      cases a3.symm.trans b3; rfl
    have et : t = t' := by
      obtain ⟨D, fd, a1, a2, a3⟩ := hx.2.1
      obtain ⟨D', fd', b1, b2, b3⟩ := hy.2.1
      cases a1.symm.trans b1
      obtain ⟨q1, q2, q3, q4⟩ := a2.1
      obtain ⟨r1, r2, r3, r4⟩ := b2.1
      cases q4.symm.trans r4
      cases a3.symm.trans b3; rfl
    subst ec et
    have ev : V = V' := by cases hx.2.2.2.1.1.symm.trans hy.2.2.2.1.1; rfl
    subst ev
    have hs : SameT n f k g := (Cod.eqv hx.2.2.2.2.1 hy.2.2.2.2.1 hx.2.2.2.2.2 hy.2.2.2.2.2).mp ⟨rfl, fun _ _ => rfl⟩
    exact ⟨s₁, some (.int 1), _, _, _, X0, rfl, rfl, rfl, (fun h => by cases h), ⟨1, rfl, hh0, Or.inl ⟨rfl, hs⟩⟩, fun fs hl => c2.trans (X0.ireturnOut hexec hret rfl (Or.inr (Or.inl rfl)) (hb hbytes d6) hl)⟩
  · have c2 : Steps p.tables e below (s₁.setTop (entryFrame m #[.ref x, .ref y] 3)) (s₁.setTop (mkF m 8 #[.val (.ref x), .val (.ref y), .unset] [.ref y])) := c1.trans (by
      refine acmpYes X0.here hexec rfl (pc0 := 2) rfl (hb hbytes d2) rfl rfl rfl (by simp [acmp, hxy]) (by decide) rfl ?_
      refine XS.aloadN X0.here hexec rfl (hb hbytes d7) rfl rfl ?_
      exact Steps.refl _)
    obtain ⟨T3, X3, q3, st3⟩ := cinst X0 hexec hown (wk W (.classLink "java/lang/String" 10 "java/lang/String")) (hy.mv X0.warmed.alike hh0).1 (g := (mkF m 8 #[.val (.ref x), .val (.ref y), .unset] [.ref y])) rfl (rest := []) rfl (hb hbytes d8)
    have hh3 := q3.trans hh0
    have c4 : Steps p.tables e below (s₁.setTop (entryFrame m #[.ref x, .ref y] 3)) (T3.setTop (mkF m 15 #[.val (.ref x), .val (.ref y), .unset] [.ref y])) := (c2.trans (st3 _ (Steps.refl _))).trans (by
      refine XS.ifNo X3.here hexec rfl (hb hbytes d11) rfl (i0_eq_f (by decide)) ?_
      refine XS.aloadN X3.here hexec rfl (hb hbytes d14) rfl rfl ?_
      exact Steps.refl _)
    obtain ⟨T5, X5, q5, st5⟩ := cself X3 hexec hown (wk W (.classLink "java/lang/String" 10 "java/lang/String")) (hy.mv X3.warmed.alike hh3).1 (g := (mkF m 15 #[.val (.ref x), .val (.ref y), .unset] [.ref y])) rfl (rest := []) rfl (hb hbytes d15)
    have hh5 := q5.trans hh3
    have c6 : Steps p.tables e below (s₁.setTop (entryFrame m #[.ref x, .ref y] 3)) (T5.setTop (mkF m 19 #[.val (.ref x), .val (.ref y), .val (.ref y)] [])) := (c4.trans (st5 _ (Steps.refl _))).trans (by
      refine XS.astoreN X5.here hexec rfl (hb hbytes d18) rfl rfl rfl ?_
      exact Steps.refl _)
    obtain ⟨T7, X7, q7, st7⟩ := X5.sget hexec hown (wk W (.fieldLink "java/lang/String" 38 "java/lang/String" "COMPACT_STRINGS" "Z")) s1 (fun _ _ h => by rw [hh5]; exact h) (g := (mkF m 19 #[.val (.ref x), .val (.ref y), .val (.ref y)] [])) rfl (hb hbytes d19)
    have hh7 := q7.trans hh5
    have c8 : Steps p.tables e below (s₁.setTop (entryFrame m #[.ref x, .ref y] 3)) (T7.setTop (mkF m 26 #[.val (.ref x), .val (.ref y), .val (.ref y)] [.ref x])) := (c6.trans (st7 _ (Steps.refl _))).trans (by
      refine XS.ifNo X7.here hexec rfl (hb hbytes d22) rfl (i0_eq_f hz) ?_
      refine XS.aloadN X7.here hexec rfl (hb hbytes d25) rfl rfl ?_
      exact Steps.refl _)
    obtain ⟨T9, X9, q9, st9⟩ := X7.hget hexec hown (wk W (.fieldLink "java/lang/String" 15 "java/lang/String" "coder" "B")) (hx.mv X7.warmed.alike hh7).2.2.1 (g := (mkF m 26 #[.val (.ref x), .val (.ref y), .val (.ref y)] [.ref x])) rfl (rest := []) rfl (hb hbytes d26)
    have hh9 := q9.trans hh7
    have c10 : Steps p.tables e below (s₁.setTop (entryFrame m #[.ref x, .ref y] 3)) (T9.setTop (mkF m 30 #[.val (.ref x), .val (.ref y), .val (.ref y)] [.ref y, .int cd])) := (c8.trans (st9 _ (Steps.refl _))).trans (by
      refine XS.aloadN X9.here hexec rfl (hb hbytes d29) rfl rfl ?_
      exact Steps.refl _)
    obtain ⟨T11, X11, q11, st11⟩ := X9.hget hexec hown (wk W (.fieldLink "java/lang/String" 15 "java/lang/String" "coder" "B")) (hy.mv X9.warmed.alike hh9).2.2.1 (g := (mkF m 30 #[.val (.ref x), .val (.ref y), .val (.ref y)] [.ref y, .int cd])) rfl (rest := [.int cd]) rfl (hb hbytes d30)
    have hh11 := q11.trans hh9
    have c12 : Steps p.tables e below (s₁.setTop (entryFrame m #[.ref x, .ref y] 3)) (T11.setTop (mkF m 33 #[.val (.ref x), .val (.ref y), .val (.ref y)] [.int cd', .int cd])) := c10.trans (st11 _ (Steps.refl _))
    by_cases hcd : cd = cd'
    · subst hcd
      have c13 : Steps p.tables e below (s₁.setTop (entryFrame m #[.ref x, .ref y] 3)) (T11.setTop (mkF m 37 #[.val (.ref x), .val (.ref y), .val (.ref y)] [.ref x])) := c12.trans (by
        refine XS.icmpNo X11.here hexec rfl (hb hbytes d33) rfl (ii_ne_f rfl) ?_
        refine XS.aloadN X11.here hexec rfl (hb hbytes d36) rfl rfl ?_
        exact Steps.refl _)
      obtain ⟨T14, X14, q14, st14⟩ := X11.hget hexec hown (wk W (.fieldLink "java/lang/String" 9 "java/lang/String" "value" "[B")) (hx.mv X11.warmed.alike hh11).2.1 (g := (mkF m 37 #[.val (.ref x), .val (.ref y), .val (.ref y)] [.ref x])) rfl (rest := []) rfl (hb hbytes d37)
      have hh14 := q14.trans hh11
      have c15 : Steps p.tables e below (s₁.setTop (entryFrame m #[.ref x, .ref y] 3)) (T14.setTop (mkF m 41 #[.val (.ref x), .val (.ref y), .val (.ref y)] [.ref y, .ref t])) := (c13.trans (st14 _ (Steps.refl _))).trans (by
        refine XS.aloadN X14.here hexec rfl (hb hbytes d40) rfl rfl ?_
        exact Steps.refl _)
      obtain ⟨T16, X16, q16, st16⟩ := X14.hget hexec hown (wk W (.fieldLink "java/lang/String" 9 "java/lang/String" "value" "[B")) (hy.mv X14.warmed.alike hh14).2.1 (g := (mkF m 41 #[.val (.ref x), .val (.ref y), .val (.ref y)] [.ref y, .ref t])) rfl (rest := [.ref t]) rfl (hb hbytes d41)
      have hh16 := q16.trans hh14
      have c17 : Steps p.tables e below (s₁.setTop (entryFrame m #[.ref x, .ref y] 3)) (T16.setTop (mkF m 44 #[.val (.ref x), .val (.ref y), .val (.ref y)] [.ref t', .ref t])) := c15.trans (st16 _ (Steps.refl _))
      obtain ⟨v18, T18, X18, E18, g18⟩ := X16.callS hexec (LEq.law l t V t' V') hown (wks W (staticW "java/lang/String" 541 LEq.yN)) (wk W LEq.tab) (W := 0) (Nat.le_of_ble_eq_true rfl) (Nat.le_of_ble_eq_true rfl) (Nat.le_refl _) (Nat.le_refl _) (g := (mkF m 44 #[.val (.ref x), .val (.ref y), .val (.ref y)] [.ref t', .ref t])) rfl (by rw [hml]; rfl) c17 (argsL := [.ref t, .ref t']) (rest := []) rfl rfl (by show 2 * 0 + 0 ≤ _; decide) (hb hbytes d44) (⟨rfl, hx.2.2.2.1.mv X16.warmed.alike hh16, hx.2.2.2.2.1.ty, hy.2.2.2.1.mv X16.warmed.alike hh16, hy.2.2.2.2.1.ty⟩)
      obtain ⟨v, rfl, q18, hv⟩ := E18
      have iff := Cod.eqv hx.2.2.2.2.1 hy.2.2.2.2.1 hx.2.2.2.2.2 hy.2.2.2.2.2
      rcases hv with ⟨rfl, he⟩ | ⟨rfl, he⟩
      · have c19 : Steps p.tables e below (s₁.setTop (entryFrame m #[.ref x, .ref y] 3)) (T18.setTop (mkF m 55 #[.val (.ref x), .val (.ref y), .val (.ref y)] [.int 1])) := Steps.trans g18 (by
          refine XS.ifNo X18.here hexec rfl (hb hbytes d47) rfl (i0_eq_f (by decide)) ?_
          refine iconstV X18.here hexec rfl 1 (hb hbytes d50) (by decide) ?_
          refine XS.goto X18.here hexec rfl (pc0 := 51) rfl (hb hbytes d51) (by decide) rfl ?_
          exact Steps.refl _)
        exact ⟨T18, some (.int 1), _, _, _, X18, rfl, rfl, rfl, (fun h => by cases h), ⟨1, rfl, q18.trans hh16, Or.inl ⟨rfl, iff.mp he⟩⟩, fun fs hl => c19.trans (X18.ireturnOut hexec hret rfl (Or.inr (Or.inl rfl)) (hb hbytes d55) hl)⟩
      · have c19 : Steps p.tables e below (s₁.setTop (entryFrame m #[.ref x, .ref y] 3)) (T18.setTop (mkF m 55 #[.val (.ref x), .val (.ref y), .val (.ref y)] [.int 0])) := Steps.trans g18 (by
          refine XS.ifYes X18.here hexec rfl (pc0 := 47) rfl (hb hbytes d47) rfl (i0_eq_t rfl) (by decide) rfl ?_
          refine iconstV X18.here hexec rfl 0 (hb hbytes d54) (by decide) ?_
          exact Steps.refl _)
        exact ⟨T18, some (.int 0), _, _, _, X18, rfl, rfl, rfl, (fun h => by cases h), ⟨0, rfl, q18.trans hh16, Or.inr ⟨rfl, fun q => he (iff.mpr q)⟩⟩, fun fs hl => c19.trans (X18.ireturnOut hexec hret rfl (Or.inr (Or.inl rfl)) (hb hbytes d55) hl)⟩
    · have c13 : Steps p.tables e below (s₁.setTop (entryFrame m #[.ref x, .ref y] 3)) (T11.setTop (mkF m 55 #[.val (.ref x), .val (.ref y), .val (.ref y)] [.int 0])) := c12.trans (by
        refine XS.icmpYes X11.here hexec rfl (pc0 := 33) rfl (hb hbytes d33) rfl (ii_ne_t hcd) (by decide) rfl ?_
        refine iconstV X11.here hexec rfl 0 (hb hbytes d54) (by decide) ?_
        exact Steps.refl _)
      exact ⟨T11, some (.int 0), _, _, _, X11, rfl, rfl, rfl, (fun h => by cases h), ⟨0, rfl, hh11, Or.inr ⟨rfl, Cod.dif hx.2.2.2.2.1 hy.2.2.2.2.1 hcd⟩⟩, fun fs hl => c13.trans (X11.ireturnOut hexec hret rfl (Or.inr (Or.inl rfl)) (hb hbytes d55) hl)⟩
theorem pays {l : Launch} {R : Room} {p : Program} {e : Env} {below : List Frame} {s : State} {sargs : Array Value} {len W : Nat} (x t : Addr) (V : Cell) (cd : Int32) (n : Nat) (f : Nat → Int32) (y t' : Addr) (V' : Cell) (cd' : Int32) (k : Nat) (g : Nat → Int32) (z : Int32) (htab : tab.before sargs s = true) (hfr : 2 ≤ R.frames) (hlo : W + 28 ≤ R.locals) :
    Back l R p e below s sargs yN len W (fun A₁ a₁ => A₁.cells + 0 ≤ R.cells ∧ A₁.slots + 0 ≤ R.slots ∧ P x t V cd n f y t' V' cd' k g z a₁ A₁.U) (fun A₁ _ v₁ B₁ => Says01 (SameT n f k g) v₁ A₁.U B₁.U ∧ B₁.locs = A₁.locs ++ [] ∧ B₁.cells = A₁.cells + 0 ∧ B₁.slots = A₁.slots + 0) :=
  (law l x t V cd n f y t' V' cd' k g z).pays htab hfr (by omega)
end SEq
end StrChars
namespace StrChars.Road
open Jvm Sem ClassFile Op Lib Jvm.Stand Jvm.Free Jvm.Free.XT
open Jvm.Lib.Cold (StaticIs)
/-- the words of String.equals(Object) -/
abbrev wordsEq : List Jvm.Cond := [.code SEq.yN SEq.yB 3 (some .boolean), .initialized ST, .classLink ST 10 ST, .fieldLink ST 38 ST "COMPACT_STRINGS" "Z", .fieldLink ST 15 ST "coder" "B", .fieldLink ST 9 ST "value" "[B", .methodLink ST 541 LEq.yN, .static LEq.yN, .code LEq.yN LEq.yB 3 (some .boolean), .initialized "java/lang/StringLatin1"]
theorem tabEq_of {a : Array Value} {s : State} (h : ∀ w ∈ wordsEq, w.before a s = true) : SEq.tab.before a s = true := by
  have hl : LEq.tab.before a s = true := unparts (wk h (.code LEq.yN LEq.yB 3 (some .boolean))) (wks h (.initialized LEq.yN.cls :: LEq.site))
  have q := consq hl h
  exact unparts (wk q (.code SEq.yN SEq.yB 3 (some .boolean))) (wks q (.initialized SEq.yN.cls :: SEq.site))
theorem movedEq {Z s : State} {a0 args : Array Value} (hZ : Z.Warmed39 s.vm) (hw : ∀ d ∈ wordsEq, d.before a0 Z = true) : ∀ d ∈ wordsEq, d.before args s = true := fun d hd => by
  have t : ∀ d ∈ wordsEq, (d.onTables && d.keepsFace) = true := by decide +kernel
  exact RoadKit.mv hZ (hw d hd) (t d hd)
/-- the road's facts of a String, as the laws ask it -/
theorem txt_of {Z U : State} {a0 : Array Value} {kI : Nat} (wi : (Jvm.Cond.instantiable ST kI).before a0 Z = true) (al : Z.vm.Alike U.vm) {x t : Addr} {kb : ClassId} {cs : List Int32} {cd N2 : Int32} {vs : List Value} (E : RoadKit.Exa Z U.heap x ST) (V : RoadKit.Fld Z U.heap x ST "value" "[B" (.ref t)) (C : RoadKit.Fld Z U.heap x ST "coder" "B" (.int cd)) (K : RoadKit.Arv Z U.heap t kb .byte N2 vs (.int 0)) (hc : CodA cs cd N2 vs) (hb : ∀ c ∈ cs, ¬ c < 0 ∧ ¬ (65535 : Int32) < c) (l2 : cs.length ≤ 4000) :
    ∃ A, Txt x t A cd cs.length (fun j => cs.getD j 0) U := by
  obtain ⟨A, K1, K2, K3, K4, K5, K6⟩ := K
  have hcod := hc.cod (by omega) K3 K5
  obtain ⟨D, fV, fC, hB, F1, F2, g1, g2, -, -⟩ := strObj wi al E V C
  exact ⟨A, ⟨_, hB.2.2.1, D, hB.1, rfl, by cases q : D.vm <;> first | rfl | exact absurd q (hB.2.1.2 _)⟩, Has.of hB F1 g1, Has.of hB F2 g2, ⟨K1.1, State.isArrayOf_alike al K1.2.1, K1.2.2, by rcases hcod with ⟨-, q, -⟩ | ⟨-, q, -⟩ <;> omega⟩, hcod, fun j hj => by
    have e : cs.getD j 0 = cs[j] := by simp [List.getD_eq_getElem?_getD, hj]
    show ¬ cs.getD j 0 < 0 ∧ ¬ 65535 < cs.getD j 0
    rw [e]; exact hb _ (List.getElem_mem _)⟩
theorem same_list (cs ds : List Int32) : SameT cs.length (fun j => cs.getD j 0) ds.length (fun j => ds.getD j 0) ↔ cs = ds := by
  constructor
  · rintro ⟨e, q⟩
    refine List.ext_getElem e fun j h1 h2 => ?_
    have := q j h1
    simpa [List.getD_eq_getElem?_getD, h1, h2] using this
  · rintro rfl
    exact ⟨rfl, fun _ _ => rfl⟩
/-- **equals(Object) OF TWO SUCH STRINGS**: 1 just where the chars are the same -/
theorem eqW {p : Program} {l : Launch} {e : Env} {R : Room} {s : State} {args : Array Value} {below : List Frame} {len W : Nat} {Z : State} {a0 : Array Value} {h : Heap} (hZ : Z.Warmed39 s.vm) (hw : ∀ d ∈ wordsEq, d.before a0 Z = true) {kI : Nat} (wi : (Jvm.Cond.instantiable ST kI).before a0 Z = true)
    {x t : Addr} {kb : ClassId} {cs : List Int32} {cd N2 : Int32} {vs : List Value} (E : RoadKit.Exa Z h x ST) (V : RoadKit.Fld Z h x ST "value" "[B" (.ref t)) (C : RoadKit.Fld Z h x ST "coder" "B" (.int cd)) (K : RoadKit.Arv Z h t kb .byte N2 vs (.int 0)) (hc : CodA cs cd N2 vs) (hb : ∀ c ∈ cs, ¬ c < 0 ∧ ¬ (65535 : Int32) < c) (l2 : cs.length ≤ 4000)
    {y t' : Addr} {kb' : ClassId} {ds : List Int32} {cd' N2' : Int32} {vs' : List Value} (E' : RoadKit.Exa Z h y ST) (V' : RoadKit.Fld Z h y ST "value" "[B" (.ref t')) (C' : RoadKit.Fld Z h y ST "coder" "B" (.int cd')) (K' : RoadKit.Arv Z h t' kb' .byte N2' vs' (.int 0)) (hc' : CodA ds cd' N2' vs') (hb' : ∀ c ∈ ds, ¬ c < 0 ∧ ¬ (65535 : Int32) < c) (l2' : ds.length ≤ 4000)
    {z : Int32} (S : RoadKit.Sta Z h ST "COMPACT_STRINGS" "Z" (.int z)) (hz : ¬ z = 0) (hfr : 2 ≤ R.frames) (hlo : W + 28 ≤ R.locals) :
    Back l R p e below s args (⟨"java/lang/String", "equals", "(Ljava/lang/Object;)Z"⟩ : MethodName) len W (fun P a => a = #[.ref x, .ref y] ∧ P.U.heap = h ∧ P.cells + 0 ≤ R.cells ∧ P.slots + 0 ≤ R.slots)
      (fun P _ v B => ∃ L, (((v = some (.int 1) ∧ cs = ds) ∨ (v = some (.int 0) ∧ ¬ cs = ds)) ∧ L = [] ∧ B.U.heap = h) ∧ B.locs = P.locs ++ L ∧ B.cells = P.cells + 0 ∧ B.slots = P.slots + 0) := by
  intro m meth c P g ig mk a X hg hsize hdg hW hn hp'
  obtain ⟨rfl, rfl, r1, r2⟩ := hp'
  have al : Z.vm.Alike P.U.vm := hZ.alike.trans X.warmed.alike
  obtain ⟨A, hx⟩ := txt_of wi al E V C K hc hb l2
  obtain ⟨A', hy⟩ := txt_of wi al E' V' C' K' hc' hb' l2'
  obtain ⟨v, B, X', ⟨⟨w, hv, hh, hq⟩, hl, hk, hs⟩, st⟩ := SEq.pays x t A cd cs.length (fun j => cs.getD j 0) y t' A' cd' ds.length (fun j => ds.getD j 0) z (tabEq_of (movedEq hZ hw)) hfr hlo m meth c P g ig mk _ X hg hsize hdg hW hn ⟨r1, r2, rfl, hx, hy, sta_is al S, hz⟩
  refine ⟨v, B, X', ⟨[], ⟨?_, rfl, hh⟩, hl, hk, hs⟩, st⟩
  rcases hq with ⟨rfl, q⟩ | ⟨rfl, q⟩
  · exact Or.inl ⟨hv, (same_list cs ds).mp q⟩
  · exact Or.inr ⟨hv, fun e => q ((same_list cs ds).mpr e)⟩
end StrChars.Road
namespace StrChars.Road
open Jvm Sem ClassFile Op Lib Jvm.Stand Jvm.Free Jvm.Free.XT
open Jvm.Lib.Cold (StaticIs)
/-- what backV says of its String, as the contracts of this text ask it: cs's low bytes, coder 0 -/
theorem codOf {cs : List Int32} {n : Nat} (hn : cs.length = n) (hb : ∀ c ∈ cs, ¬ 255 < c) : CodA cs 0 (Int32.ofNat n) ((cs.map lo8).map Value.int) := Or.inl ⟨rfl, by rw [hn], by simp [List.map_map, Function.comp_def], hb⟩
end StrChars.Road
end Jvm.Pilot.@@N@@

namespace Jvm.RoadKit
open Sem ClassFile Op Lib Jvm.Stand Jvm.Free Jvm.LawKit
section New
variable {p : Program} {l : Launch} {e : Env} {R : Room} {s : State} {m : MethodId} {args : Array Value} {below : List Frame} {meth : Method} {c : Code} {T : State} {locs : List Loc} {cells slots : Nat}
theorem retI (X : Stand p l e R s m args below meth c T locs cells slots) (hx : p.tables.exec = Jvm.exec) {pc : Nat} {Ls : Array Slot} {z : Int32} {rest : List Value} (hret : meth.sig.returnType = some .int) (hd : decode c.code pc = .ok (.ireturn, 1)) {fs : List Frame}
    (hl : ∀ (f : JFrame) (acts : List Action), f.method = m → f.locked = none → f.entered = [] → (doReturn e (T.setTop f) acts (some (.int z))).1 = T.setFrames fs) : Steps p.tables e below (T.setTop (mkF m pc Ls (.int z :: rest))) (T.setFrames fs) := by
  have hm' : T.vm.method? m = some meth := X.method'
  have hn : narrow .int (.int z) = .int z := rfl
  show Steps p.tables e below (T.setTop { method := m, pc := pc, locals := Ls, stack := _ :: rest, locked := none }) _
  jvm_step X.here [X.here.top, hx, hd, hm', hret, hn]
  first | (intro acts; rw [hl _ acts rfl rfl rfl]) | rw [hl _ _ rfl rfl rfl]
  exact Steps.refl _
end New
end Jvm.RoadKit
namespace Jvm.Pilot.@@N@@
open Jvm Jvm.ClassFile Sem Op Lib Jvm.Free Jvm.Stand Jvm.LawKit Jvm.RoadKit Bundle Jvm.Pilot.@@N@@.Jvm.D
theorem ow {Z : State} {a0 : Array Value} (hw : ∀ d ∈ tables_1, d.before a0 Z = true) (i : Nat) {d : Jvm.Cond} (h : tables_1[i]? = some d) : d.before a0 Z = true := hw d (List.mem_of_getElem? h)
abbrev HW (a0 : Array Value) (Z : State) : Prop := ∀ d ∈ tables_1, d.before a0 Z = true
abbrev MF (l : Launch) (y : MethodName) (bytes : ByteArray) (ml : Nat) (ret : Option FieldType) (ws : List Jvm.Cond) (rm : Room) (Z : State) (as : Array Value) (h0 : Heap) (Q : Option Value → Heap → List Loc → Prop) : Prop := MetFree l y (head1 (Jvm.Cond.code y bytes ml ret :: ws) rm) (fun a U => a = as ∧ Z.Warmed39 U.vm ∧ U.heap = h0) (fun _ _ _ _ _ => True) (fun _ U o U' => ∃ v L, o = .returned v ∧ Q v U'.heap L ∧ FrameEnd U o U' L rm.cells rm.slots)
abbrev un : Slot := .unset
theorem gF {p : Program} {l : Launch} {e : Env} {R : Room} {s : State} {m : MethodId} {args : Array Value} {below : List Frame} {meth : Method} {c : Code} {T : State} {locs : List Loc} {cells slots : Nat} {Z : State} {a0 : Array Value} {h : Heap} (X : Stand p l e R s m args below meth c T locs cells slots) (hx : p.tables.exec = Jvm.exec) (hZ : Z.Warmed39 s.vm) {own O n d : String} {index : Nat} (hown : s.vm.findClass own = some m.cls) (w : (Jvm.Cond.fieldLink own index O n d).before a0 Z = true)
    (eT : T.heap = h) {a : Addr} {v : Value} (F : Fld Z h a O n d v) {g : JFrame} (hg : g.method = m) {rest : List Value} (hs : g.stack = .ref a :: rest) (hd : decode c.code g.pc = .ok (.getfield index, 3)) : ∃ T', Stand p l e R s m args below meth c T' locs cells slots ∧ T'.heap = h ∧ ∀ target, Steps p.tables e below (T'.setTop { g with pc := g.pc + 3, stack := v :: rest }) target → Steps p.tables e below (T.setTop g) target :=
  getF X hx hZ hown (host := "") (Or.inl w) Via.refl eT F hg hs hd
theorem pF {p : Program} {l : Launch} {e : Env} {R : Room} {s : State} {m : MethodId} {args : Array Value} {below : List Frame} {meth : Method} {c : Code} {T : State} {locs : List Loc} {cells slots : Nat} {Z : State} {a0 : Array Value} {h : Heap} (X : Stand p l e R s m args below meth c T locs cells slots) (hx : p.tables.exec = Jvm.exec) (hZ : Z.Warmed39 s.vm) {own O n d C : String} {index kk : Nat} {ty : FieldType} (hown : s.vm.findClass own = some m.cls) (w : (Jvm.Cond.fieldLink own index O n d).before a0 Z = true)
    (eT : T.heap = h) {a : Addr} {v old : Value} (F : Fld Z h a O n d old) (E : Exa Z h a C) (L : (Jvm.Cond.lays C O n d).before a0 Z = true ∨ ((Jvm.Cond.laysFinal C O n d).before a0 Z = true ∧ own = O ∧ meth.name = "<init>")) (wi : (Jvm.Cond.instantiable C kk).before a0 Z = true)
    (hty : parseFieldDescriptor d = some ty) (hn : narrow ty v = v) (hf : fits ty v = true) {g : JFrame} (hg : g.method = m) {rest : List Value} (hs : g.stack = v :: .ref a :: rest) (hd : decode c.code g.pc = .ok (.putfield index, 3)) :
    ∃ T' h', Stand p l e R s m args below meth c T' (locs ++ [⟨a, RoadKit.slotOf Z O n d⟩]) cells slots ∧ T'.heap = h' ∧ Wr h h' a (RoadKit.slotOf Z O n d) v ∧ ∀ target, Steps p.tables e below (T'.setTop { g with pc := g.pc + 3, stack := rest }) target → Steps p.tables e below (T.setTop g) target :=
  putF X hx hZ hown (host := "") (Or.inl w) Via.refl eT F E L wi hty hn hf hg hs hd
theorem fl {p : Program} {l : Launch} {e : Env} {R : Room} {s s₀ : State} {m : MethodId} {args : Array Value} {below : List Frame} {meth : Method} {c : Code} {T : State} {locs : List Loc} {cells slots dc ds k : Nat} {g : JFrame} {rest : List Value} {Q : Option Value → Heap → List Loc → Prop} (X : Stand p l e R s m args below meth c T locs cells slots) (h : ∃ (v : Option Value) (vm₁ : Vm) (B : Pt), s.WarmedH vm₁ ∧ Stand p l e R s m args below meth c B.U B.locs (B.cells) (B.slots) ∧ (∃ L, Q v B.U.heap L ∧ B.locs = locs ++ L ∧ B.cells = cells + dc ∧ B.slots = slots + ds) ∧ Steps p.tables e below s₀ (B.U.setTop { g with pc := g.pc + k, stack := v.toList ++ rest })) :
    ∃ (T' : State) (L : List Loc) (v : Option Value), Stand p l e R s m args below meth c T' (locs ++ L) (cells + dc) (slots + ds) ∧ Q v T'.heap L ∧ Steps p.tables e below s₀ (T'.setTop { g with pc := g.pc + k, stack := v.toList ++ rest }) := by
  obtain ⟨v, vm₁, ⟨T', L', k', n'⟩, -, X', ⟨L, hQ, l1, l2, l3⟩, st⟩ := h
  dsimp only [Pt.U, Pt.locs, Pt.cells, Pt.slots] at X' l1 l2 l3 st hQ
  subst l1 l2 l3
  exact ⟨T', L, v, X', hQ, st⟩
theorem flC {p : Program} {l : Launch} {e : Env} {R : Room} {s s₀ : State} {m : MethodId} {args : Array Value} {below : List Frame} {meth : Method} {c : Code} {T : State} {locs : List Loc} {cells slots dc ds k : Nat} {g : JFrame} {rest : List Value} {Q : Option Value → Heap → List Loc → Prop} (X : Stand p l e R s m args below meth c T locs cells slots) (h : ∃ (v : Option Value) (vm₁ : Vm) (B : Pt), s.WarmedH vm₁ ∧ Stand p l e R s m args below meth c B.U B.locs (B.cells) (B.slots) ∧ (∃ L, Q v B.U.heap L ∧ B.locs = locs ++ L ∧ B.cells = cells + dc ∧ B.slots = slots + ds) ∧ (∀ target, Steps p.tables e below (B.U.setTop { g with pc := g.pc + k, stack := v.toList ++ rest }) target → Steps p.tables e below s₀ target)) :
    ∃ (T' : State) (L : List Loc) (v : Option Value), Stand p l e R s m args below meth c T' (locs ++ L) (cells + dc) (slots + ds) ∧ Q v T'.heap L ∧ (∀ target, Steps p.tables e below (T'.setTop { g with pc := g.pc + k, stack := v.toList ++ rest }) target → Steps p.tables e below s₀ target) := by
  obtain ⟨v, vm₁, ⟨T', L', k', n'⟩, -, X', ⟨L, hQ, l1, l2, l3⟩, st⟩ := h
  dsimp only [Pt.U, Pt.locs, Pt.cells, Pt.slots] at X' l1 l2 l3 st hQ
  subst l1 l2 l3
  exact ⟨T', L, v, X', hQ, st⟩
theorem wf {n : Nat} : 2 * 0 + n ≤ n := by omega
theorem mo {Z s : State} {a0 args : Array Value} (hZ : Z.Warmed39 s.vm) (hw : HW a0 Z) (i : Nat) {d : Jvm.Cond} (h : tables_1[i]? = some d) (hd : (d.onTables && d.keepsFace) = true := by first | rfl | simp [Cond.onTables, Cond.keepsFace, Cond.keeps, Cond.steady]) : d.before args s = true := mvT hZ (ow hw i h) hd
section Calls
variable {p : Program} {l : Launch} {e : Env} {R : Room} {s : State} {m : MethodId} {args : Array Value} {below : List Frame} {meth : Method} {c : Code} {T : State} {locs : List Loc} {cells slots : Nat} {Z : State} {a0 : Array Value} {h : Heap} {own C : String} {index count : Nat} {x y : MethodName} {bytes : ByteArray} {ml : Nat} {ret : Option FieldType} {rm : Room} {as : Array Value} {Q : Option Value → Heap → List Loc → Prop} {W : Nat} {b : Addr} {g : JFrame} {argsL rest : List Value}
theorem cS (X : Stand p l e R s m args below meth c T locs cells slots) (hx : p.tables.exec = Jvm.exec) (hZ : Z.Warmed39 s.vm) (hw : HW a0 Z) (hown : s.vm.findClass own = some m.cls) (j1 : Nat) (h1 : tables_1[j1]? = some (Jvm.Cond.methodLink own index y)) (j2 : Nat) (h2 : tables_1[j2]? = some (Jvm.Cond.static y)) (j10 : Nat) (h10 : tables_1[j10]? = some (Jvm.Cond.initialized y.cls)) (j9 : Nat) (h9 : tables_1[j9]? = some (Jvm.Cond.code y bytes ml ret)) (hy : y.cls ≠ "java/lang/invoke/MethodHandle" ∧ y.cls ≠ "java/lang/invoke/VarHandle") (r : MF l y bytes ml ret [] rm Z as h Q) (hf : rm.frames + 1 ≤ R.frames) (hl : W + (ml + 11) + rm.locals ≤ R.locals) (eT : T.heap = h) (hg : g.method = m) (hsize : g.locals.size = c.maxLocals) (hlen : ∀ sig, parseMethodDescriptor y.desc = some sig → argsL.length = sig.parameters.length) (hstack : g.stack = argsL.reverse ++ rest) (hW : 2 * g.monitorRoom + (rest.map fun v => v.category).sum ≤ W) (hdg : decode c.code g.pc = .ok (.invokestatic index, 3)) (has : argsL.toArray = as) (hc : cells + rm.cells ≤ R.cells) (hs : slots + rm.slots ≤ R.slots) :
    ∃ (T' : State) (L : List Loc) (v : Option Value), Stand p l e R s m args below meth c T' (locs ++ L) (cells + rm.cells) (slots + rm.slots) ∧ Q v T'.heap L ∧ (∀ target, Steps p.tables e below (T'.setTop { g with pc := g.pc + 3, stack := v.toList ++ rest }) target → Steps p.tables e below (T.setTop g) target) :=
  flC X (Jvm.LawKit.callS X hx hown (mo hZ hw j1 h1) (mo hZ hw j2 h2) (mo hZ hw j10 h10) (mo hZ hw j9 h9) hy (backOf (W := W) r hZ (ow hw j9 h9) (ow hw j10 h10) hf hl) hg hsize hlen hstack hW hdg (fun _ _ => ⟨has, eT, hc, hs⟩))
end Calls
theorem own_in {l : Launch} {y : MethodName} {bytes : ByteArray} {ml : Nat} {ret : Option FieldType} {ws : List Jvm.Cond} {rm : Room} {Z : State} {as : Array Value} {h0 : Heap} {Q : Array Value → State → Outcome → State → Prop} (pn : plainFor y = true) (L0 : Array Slot) (ef : ∀ m, entryFrame m as ml = mkF m 0 L0 [])
    (H : ∀ (p : Program) (e : Env) (s : State) (m : MethodId) (below : List Frame) (meth : Method) (c : Code) (s₁ : State), BodyLoose p l y (head1 (Jvm.Cond.code y bytes ml ret :: ws) rm) bytes ml ret e s m as below meth c s₁ → p.tables.exec = Jvm.exec → c.code = bytes → c.maxLocals = ml → s.vm.findClass y.cls = some m.cls → meth.name = y.name → Z.Warmed39 s.vm → s₁.heap = h0 → Stand p l e rm s m as below meth c s₁ [] 0 0 →
      ∃ s₂ o, Steps p.tables e below (s₁.setTop (mkF m 0 L0 [])) s₂ ∧ s₂.status = .running ∧ Ended s₂ below o ∧ Q as s o s₂) :
    MetFree l y (head1 (Jvm.Cond.code y bytes ml ret :: ws) rm) (fun a U => a = as ∧ Z.Warmed39 U.vm ∧ U.heap = h0) (fun _ _ _ _ _ => True) Q := by
  refine MetFree.of_bodySF pn hisR ?_
  intro p e s m args below meth c s₁ Bd hml0 hP hK
  obtain ⟨rfl, hZ, hh⟩ := hP
  obtain ⟨s₂, o, h1, h2⟩ := H p e s m below meth c s₁ Bd Bd.exec Bd.bytes hml0 (findClass_of_methodNamed Bd.named) (name_of_methodNamed Bd.named Bd.method).1 hZ (by rw [← hh, Bd.state]; rfl) (Stand.of_body Bd)
  exact ⟨s₂, o, castTop (ef m) h1, h2⟩
abbrev St (p : Program) (e : Env) (below : List Frame) (T : State) (m : MethodId) (pc : Nat) (Ls : Array Slot) (st : List Value) (t : State) : Prop := Steps p.tables e below (T.setTop (mkF m pc Ls st)) t
theorem own_i8 (x : Int32) : x.toInt8.toInt32.toInt8.toInt32 = x.toInt8.toInt32 := by simp
theorem own_narb (x : Int32) : nar .byte (x.toInt8.toInt32) = x.toInt8.toInt32 := by simp [nar]
def Base (Z : State) (zCOMPACT_STRINGS : Int32) : Prop := Sta Z Z.heap "java/lang/String" "COMPACT_STRINGS" "Z" (.int zCOMPACT_STRINGS) ∧ ¬ (zCOMPACT_STRINGS = (0 : Int32))
abbrev EL0 : List (String × Nat) := consts_1
abbrev MFH (l : Launch) (y : MethodName) (bytes : ByteArray) (ml : Nat) (ret : Option FieldType) (ws : List Jvm.Cond) (rm : Room) (Z : State) (as : Array Value) (h0 : Heap) (Q : Option Value → Heap → List Loc → Prop) : Prop := MetFree l y (head1 (Jvm.Cond.code y bytes ml ret :: ws) rm) (fun a U => a = as ∧ Z.Warmed39 U.vm ∧ U.heap = h0 ∧ CHv Z EL0 U.vm h0) (fun _ _ _ _ _ => True) (fun _ U o U' => ∃ v L, o = .returned v ∧ Q v U'.heap L ∧ CHr Z EL0 U.vm U.heap U'.vm U'.heap ∧ ReturnedEndW U o U' L rm.cells rm.slots)
theorem own_lit0 : (∀ c ∈ "".toList, c.toNat < 256) ∧ "".toList.map (fun c => Value.int (Jvm.Lit.byteI c.toNat.toUInt16)) = [] := ⟨by simp, rfl⟩
theorem own_inH {l : Launch} {y : MethodName} {bytes : ByteArray} {ml : Nat} {ret : Option FieldType} {ws : List Jvm.Cond} {rm : Room} {Z : State} {as : Array Value} {h0 : Heap} {Q : Array Value → State → Outcome → State → Prop} (pn : plainFor y = true) (L0 : Array Slot) (ef : ∀ m, entryFrame m as ml = mkF m 0 L0 [])
    (H : ∀ (p : Program) (e : Env) (s : State) (m : MethodId) (below : List Frame) (meth : Method) (c : Code) (s₁ : State), BodyLoose p l y (head1 (Jvm.Cond.code y bytes ml ret :: ws) rm) bytes ml ret e s m as below meth c s₁ → p.tables.exec = Jvm.exec → c.code = bytes → c.maxLocals = ml → s.vm.findClass y.cls = some m.cls → meth.name = y.name → Z.Warmed39 s.vm → s.heap = h0 → CHr Z EL0 s.vm h0 s.vm h0 → s₁.heap = h0 → Stand p l e rm s m as below meth c s₁ [] 0 0 →
      ∃ s₂ o, Steps p.tables e below (s₁.setTop (mkF m 0 L0 [])) s₂ ∧ s₂.status = .running ∧ Ended s₂ below o ∧ Q as s o s₂) :
    MetFree l y (head1 (Jvm.Cond.code y bytes ml ret :: ws) rm) (fun a U => a = as ∧ Z.Warmed39 U.vm ∧ U.heap = h0 ∧ CHv Z EL0 U.vm h0) (fun _ _ _ _ _ => True) Q := by
  refine MetFree.of_bodySF pn hisR ?_
  intro p e s m args below meth c s₁ Bd hml0 hP hK
  obtain ⟨rfl, hZ, hh, hC⟩ := hP
  obtain ⟨s₂, o, h1, h2⟩ := H p e s m below meth c s₁ Bd Bd.exec Bd.bytes hml0 (findClass_of_methodNamed Bd.named) (name_of_methodNamed Bd.named Bd.method).1 hZ hh (CHr.refl hC) (by rw [← hh, Bd.state]; rfl) (Stand.of_body Bd)
  exact ⟨s₂, o, castTop (ef m) h1, h2⟩
section HeldL
variable {p : Program} {l : Launch} {e : Env} {R : Room} {s s₀ : State} {m : MethodId} {args : Array Value} {below : List Frame} {meth : Method} {c : Code} {T : State} {locs : List Loc} {cells slots : Nat} {Z : State} {a0 : Array Value} {h h0 : Heap} {vm : Vm} {Q : Option Value → Heap → List Loc → Prop} {y0 : MethodName} {S0 : Spec} {b0 : ByteArray} {l0 k0 : Nat} {ret : Option FieldType} {as : Array Value} {rm : Room} {s₁ T0 : State}
theorem finH (Bd : BodyLoose p l y0 S0 b0 l0 ret e s m as below meth c s₁) (X : Stand p l e R (s.setVm vm) m args below meth c T locs cells slots) (hZ : Z.Warmed39 vm) (hEL : EW Z a0 EL0) (C : CHr Z EL0 s.vm h0 vm h) (hh : s.heap = h0) (eT : T.heap = h) (hS : s.Since vm k0) (hk : k0 ≤ h.size) (v : Option Value) (hv : ret = none → v = none) (hQ : Q v h locs) (hc : cells ≤ rm.cells) (hs : slots ≤ rm.slots)
    (H : ∀ fs, (∀ (f : JFrame) (acts : List Action), f.method = m → f.locked = none → f.entered = [] → (doReturn e (T.setTop f) acts v).1 = T.setFrames fs) → Steps p.tables e below T0 (T.setFrames fs)) :
    ∃ s₂ o, Steps p.tables e below T0 s₂ ∧ s₂.status = .running ∧ Ended s₂ below o ∧ (∃ v L, o = .returned v ∧ Q v s₂.heap L ∧ CHr Z EL0 s.vm s.heap s₂.vm s₂.heap ∧ ReturnedEndW s o s₂ L rm.cells rm.slots) := by
  subst eT hh
  obtain ⟨fs, hr, hrun, hended, hE⟩ := Stand.leaveW (s := s) (vm₁ := vm) X hS hk (v := v) fun h => hv (Bd.returns.symm.trans h)
  exact ⟨_, _, H fs hr, hrun, hended, _, _, rfl, hQ, (show CHr Z EL0 s.vm s.heap T.vm T.heap from C.trans (CHv.at X hZ hEL C.1)), hE.1, hE.2.1, hE.2.2.1, hE.2.2.2.mono hc hs⟩
theorem flH {dc ds k : Nat} {g : JFrame} {rest : List Value} (X : Stand p l e R s m args below meth c T locs cells slots) (hq : ∃ (v : Option Value) (vm₁ : Vm) (B : Pt), s.WarmedH vm₁ ∧ Stand p l e R (s.setVm B.U.vm) m args below meth c B.U B.locs (B.cells) (B.slots) ∧ s.Since B.U.vm B.U.heap.size ∧ T.heap.size ≤ B.U.heap.size ∧ (∃ L, Q v B.U.heap L ∧ B.locs = locs ++ L ∧ B.cells = cells + dc ∧ B.slots = slots + ds ∧ CHr Z EL0 vm h B.U.vm B.U.heap) ∧ Steps p.tables e below s₀ (B.U.setTop { g with pc := g.pc + k, stack := v.toList ++ rest })) :
    ∃ (T' : State) (L : List Loc) (v : Option Value), Stand p l e R (s.setVm T'.vm) m args below meth c T' (locs ++ L) (cells + dc) (slots + ds) ∧ s.Since T'.vm T'.heap.size ∧ T.heap.size ≤ T'.heap.size ∧ CHr Z EL0 vm h T'.vm T'.heap ∧ Q v T'.heap L ∧ Steps p.tables e below s₀ (T'.setTop { g with pc := g.pc + k, stack := v.toList ++ rest }) := by
  obtain ⟨v, vm₁, ⟨T', L', k', n'⟩, -, X', q1, q2, ⟨L, hQ, l1, l2, l3, hC⟩, st⟩ := hq
  dsimp only [Pt.U, Pt.locs, Pt.cells, Pt.slots] at X' l1 l2 l3 st hQ hC
  subst l1 l2 l3
  exact ⟨T', L, v, X', q1, q2, hC, hQ, st⟩
theorem own_safeN {EL : List (String × Nat)} {x : Addr} (hal : Z.vm.Alike vm) (E : Exa Z h x "java/lang/String") (F : Fld Z h x "java/lang/String" "value" "[B" .null) : Safe Z EL vm h x := fun B => by
  obtain ⟨p, -, u, a, -, q, -, F', rfl | rfl⟩ := B
  · obtain ⟨cS, ⟨⟨s1, s2, s3, ⟨cv, kv, iv, s4, s4'⟩, -, s6, -, s8, -⟩, hfS, hcS⟩, -⟩ := F'
    obtain ⟨kv', z4⟩ := ff_back (U := Wst Z vm h) hal s4
    have G : Fld Z h q.sa "java/lang/String" "value" "[B" (.ref q.sd) := ⟨q.sC, cv, kv', iv, q.fSV, s1, z4, s6, s2, s3, by rw [← hal.assignable]; exact s4', s8⟩
    exact Fld.ne F G nofun rfl
  · obtain ⟨cell, k, e1, e2, e3, -, -⟩ := E
    cases (show h[q.sd]? = some q.SA from F'.hd).symm.trans e1
    obtain ⟨cS, -, -, f, -⟩ := F'
    have f : vm.findClass "[B" = some q.SA.cls := f
    rw [hal.findClass] at f
    obtain ⟨k1, q1, q2⟩ := Vm.findClass_spec f
    obtain ⟨k2, q3, q4⟩ := Vm.findClass_spec e2
    cases q1.symm.trans q3
    exact absurd (q2.symm.trans q4) (by decide)
theorem own_neAA {a b : Addr} {k k' : ClassId} {ty ty' : FieldType} {z z' : Int32} {vs vs' : List Value} {d d' : Value} (A : Arv Z h a k ty z vs d) (B : Arv Z h b k' ty' z' vs' d') (q : ty ≠ ty') : a ≠ b := fun e => by
  subst e
  obtain ⟨c1, ⟨a1, ⟨-, k1, hk1, m1, hq1⟩, -⟩, -⟩ := A
  obtain ⟨c2, ⟨a2, ⟨-, k2, hk2, m2, hq2⟩, -⟩, -⟩ := B
  cases a1.symm.trans a2
  cases hk1.symm.trans hk2
  have e := hq1.symm.trans hq2
  injection e with _ e; exact q e
end HeldL
theorem own_EW {Z : State} {a0 : Array Value} (hw : HW a0 Z) : EW Z a0 EL0 := EW.cons (ow hw 98 rfl) (by simp) (EW.cons (ow hw 24 rfl) (by simp) EW.nil)
def own_tn (cs : List Int32) : Int32 := Int32.ofNat cs.length
def own_tb (cs : List Int32) : List Value := (cs.map fun c => c.toInt8.toInt32).map Value.int
def own_GT (cs : List Int32) : Prop := cs.length ≤ 2 ∧ ∀ c ∈ cs, ¬ c < 0 ∧ ¬ 255 < c
def own_eqc (cs ds : List Int32) : Int32 := if cs = ds then 1 else 0
def own_c1 (x : Int32) : Int32 := (nar .char ((((x.toUInt32 >>> ((2 : Int32) &&& 31).toUInt32).toInt32) &&& (255 : Int32)).toUInt32.toUInt16.toUInt32.toInt32))
def own_c2 (x : Int32) : Int32 := (nar .char ((((x.toUInt32 >>> ((10 : Int32) &&& 31).toUInt32).toInt32) &&& (255 : Int32)).toUInt32.toUInt16.toUInt32.toInt32))
def own_tl (x : Int32) : List Int32 := if ((x &&& (3 : Int32)) % (3 : Int32)) = (0 : Int32) then [] else if ((x &&& (3 : Int32)) % (3 : Int32)) = (1 : Int32) then [own_c1 x] else [own_c1 x, own_c2 x]
theorem own_tl0 {x : Int32} (h : ((x &&& (3 : Int32)) % (3 : Int32)) = (0 : Int32)) : own_tl x = [] := if_pos h
theorem own_tl1 {x : Int32} (h : ¬ (((x &&& (3 : Int32)) % (3 : Int32)) = (0 : Int32))) (h1 : ((x &&& (3 : Int32)) % (3 : Int32)) = (1 : Int32)) : own_tl x = [own_c1 x] := by rw [own_tl, if_neg h, if_pos h1]
theorem own_tl2 {x : Int32} (h : ¬ (((x &&& (3 : Int32)) % (3 : Int32)) = (0 : Int32))) (h1 : ¬ (((x &&& (3 : Int32)) % (3 : Int32)) = (1 : Int32))) : own_tl x = [own_c1 x, own_c2 x] := by rw [own_tl, if_neg h, if_neg h1]
theorem own_gt0 : own_GT [] := ⟨by decide, nofun⟩
theorem own_msk (x : Int32) : nar .char (x &&& (255 : Int32)).toUInt32.toUInt16.toUInt32.toInt32 = x &&& 255 := by rw [i2c_mask]; exact i2c_mask x
theorem own_mb (x : Int32) : ¬ (x &&& 255) < 0 ∧ ¬ 255 < (x &&& 255) := by
  have a := c_mask x 255 8 (by decide) (by decide)
  have e : (255 : Int32).toInt = 255 := by decide
  have e0 : (0 : Int32).toInt = 0 := rfl
  rw [Int32.lt_iff_toInt_lt, Int32.lt_iff_toInt_lt, e, e0]
  omega
theorem own_c1b (x : Int32) : ¬ own_c1 x < 0 ∧ ¬ 255 < own_c1 x := by unfold own_c1; rw [own_msk]; exact own_mb _
theorem own_c2b (x : Int32) : ¬ own_c2 x < 0 ∧ ¬ 255 < own_c2 x := by unfold own_c2; rw [own_msk]; exact own_mb _
theorem own_c1n (x : Int32) : nar .char (own_c1 x) = own_c1 x := by unfold own_c1; rw [own_msk]; exact i2c_mask _
theorem own_c2n (x : Int32) : nar .char (own_c2 x) = own_c2 x := by unfold own_c2; rw [own_msk]; exact i2c_mask _
theorem own_c1bb (x : Int32) : ¬ 255 < nar .char (own_c1 x) := by rw [own_c1n]; exact (own_c1b x).2
theorem own_c2bb (x : Int32) : ¬ 255 < nar .char (own_c2 x) := by rw [own_c2n]; exact (own_c2b x).2
theorem own_gt (x : Int32) : own_GT (own_tl x) := by
  unfold own_tl
  split
  · exact own_gt0
  · split
    · exact ⟨Nat.le_of_ble_eq_true rfl, fun c hc => by rw [List.mem_singleton.mp hc]; exact own_c1b x⟩
    · refine ⟨Nat.le_of_ble_eq_true rfl, fun c hc => ?_⟩
      rcases List.mem_cons.mp hc with rfl | hc
      · exact own_c1b x
      · rw [List.mem_singleton.mp hc]; exact own_c2b x
theorem own_eqw : ∀ d ∈ StrChars.Road.wordsEq, d ∈ tables_1 := by decide +kernel
def own_eqQ (cs ds : List Int32) (h : Heap) (n0 : Nat) (v : Option Value) (h' : Heap) (L : List Loc) : Prop := v = some (.int (own_eqc cs ds)) ∧ Fr n0 L ∧ h' = h
theorem own_eqB {p : Program} {l : Launch} {e : Env} {R : Room} {s : State} {args : Array Value} {below : List Frame} {len W : Nat} {Z : State} {a0 : Array Value} {h : Heap} (n0 : Nat) (hZ : Z.Warmed39 s.vm) (hw : HW a0 Z) {kI : Nat} (wi : (Jvm.Cond.instantiable "java/lang/String" kI).before a0 Z = true)
    {x t : Addr} {kb : ClassId} {cs : List Int32} (E : Exa Z h x "java/lang/String") (V : Fld Z h x "java/lang/String" "value" "[B" (.ref t)) (C : Fld Z h x "java/lang/String" "coder" "B" (.int 0)) (K : Arv Z h t kb .byte (own_tn cs) (own_tb cs) (.int 0)) (G : own_GT cs)
    {y t' : Addr} {kb' : ClassId} {ds : List Int32} (E' : Exa Z h y "java/lang/String") (V' : Fld Z h y "java/lang/String" "value" "[B" (.ref t')) (C' : Fld Z h y "java/lang/String" "coder" "B" (.int 0)) (K' : Arv Z h t' kb' .byte (own_tn ds) (own_tb ds) (.int 0)) (G' : own_GT ds)
    {z : Int32} (S : Sta Z h "java/lang/String" "COMPACT_STRINGS" "Z" (.int z)) (hz : ¬ z = 0) (hfr : 2 ≤ R.frames) (hlo : W + 28 ≤ R.locals) :
    Back l R p e below s args (⟨"java/lang/String", "equals", "(Ljava/lang/Object;)Z"⟩ : MethodName) len W (fun P a => a = #[.ref x, .ref y] ∧ P.U.heap = h ∧ P.cells + 0 ≤ R.cells ∧ P.slots + 0 ≤ R.slots)
      (fun P _ v B => ∃ L, own_eqQ cs ds h n0 v B.U.heap L ∧ B.locs = P.locs ++ L ∧ B.cells = P.cells + 0 ∧ B.slots = P.slots + 0) := by
  have wd : ∀ {us : List Int32}, own_GT us → ∀ c ∈ us, ¬ c < 0 ∧ ¬ (65535 : Int32) < c := fun {us} g c hc => ⟨(g.2 c hc).1, fun q => (g.2 c hc).2 (Int32.lt_trans (by decide) q)⟩
  intro m meth c P g ig mk a X hg hsize hdg hW hn hp'
  obtain ⟨v, B, X', ⟨L, ⟨hv, rfl, hh⟩, r⟩, st⟩ := StrChars.Road.eqW (h := h) hZ (fun d hd => hw d (own_eqw d hd)) wi E V C K (StrChars.Road.codOf rfl fun c hc => (G.2 c hc).2) (wd G) (Nat.le_trans G.1 (by decide)) E' V' C' K' (StrChars.Road.codOf rfl fun c hc => (G'.2 c hc).2) (wd G') (Nat.le_trans G'.1 (by decide)) S hz hfr hlo m meth c P g ig mk a X hg hsize hdg hW hn hp'
  refine ⟨v, B, X', ⟨[], ⟨?_, Fr.nil n0, hh⟩, r⟩, st⟩
  rcases hv with ⟨rfl, q⟩ | ⟨rfl, q⟩
  · rw [own_eqc, if_pos q]
  · rw [own_eqc, if_neg q]
def own_textQ (Z : State) (x : Int32) (h0 : Heap) (n0 : Nat) (v : Option Value) (h : Heap) (L : List Loc) : Prop := ∃ (a b : Addr) (k : ClassId), v = some (.ref a) ∧ Fr n0 L ∧ Keep h0 h [] ∧ h0.size ≤ a ∧ Exa Z h a "java/lang/String" ∧ Fld Z h a "java/lang/String" "coder" "B" (.int (0 : Int32)) ∧ Fld Z h a "java/lang/String" "value" "[B" (.ref b) ∧ Arv Z h b k .byte (own_tn (own_tl x)) (own_tb (own_tl x)) (.int (0 : Int32))
def own_sameQ (x y : Int32) (h0 : Heap) (n0 : Nat) (v : Option Value) (h : Heap) (L : List Loc) : Prop := v = some (.int (own_eqc (own_tl x) (own_tl y))) ∧ Fr n0 L ∧ h = h0
theorem own_arv2 {Z : State} {h : Heap} {b : Addr} {k : ClassId} {x : Int32} (F : Arv Z h b k .byte (2 : Int32) [.int ((nar .char (own_c1 x)).toInt8.toInt32), .int ((nar .char (own_c2 x)).toInt8.toInt32)] (.int (0 : Int32))) : Arv Z h b k .byte (own_tn [own_c1 x, own_c2 x]) (own_tb [own_c1 x, own_c2 x]) (.int (0 : Int32)) := by
  rw [own_c1n, own_c2n] at F
  exact F
theorem d0_0 : decode method_6_code 0 = .ok (.iload_n 0, 1) := by decide +kernel
theorem d0_1 : decode method_6_code 1 = .ok (.invokestatic 26, 3) := by decide +kernel
theorem d1_0 : decode method_3_code 0 = .ok (.iload_n 0, 1) := by decide +kernel
theorem d1_1 : decode method_3_code 1 = .ok (.iconst 3, 1) := by decide +kernel
theorem d1_2 : decode method_3_code 2 = .ok (.iand, 1) := by decide +kernel
theorem d1_3 : decode method_3_code 3 = .ok (.iconst 3, 1) := by decide +kernel
theorem d1_4 : decode method_3_code 4 = .ok (.irem, 1) := by decide +kernel
theorem d1_5 : decode method_3_code 5 = .ok (.ireturn, 1) := by decide +kernel
abbrev y1 : MethodName := ⟨"com/example/agave/agave/store/StoredRequestIsSameRequestPinLaw", "length", "(I)I"⟩
theorem pn_com_example_agave_agave_store_StoredRequestIsSameRequestPinLaw : plainName "com/example/agave/agave/store/StoredRequestIsSameRequestPinLaw" = true := by first | (simp [plainName, overriddenIn]; done) | decide +kernel
def r1_1Q (Z : State) (p1 : Int32) (h0 : Heap) (n0 : Nat) (v : Option Value) (h : Heap) (L : List Loc) : Prop := v = some (.int ((p1 &&& (3 : Int32)) % (3 : Int32))) ∧ Fr n0 L ∧ h = h0
set_option maxRecDepth 65536 in
set_option maxHeartbeats 40000000 in
theorem r1_1 (l : Launch) (Z : State) (a0 : Array Value) (hw : HW a0 Z) (ws : List Jvm.Cond) (p1 : Int32) (h0 : Heap) (n0 : Nat) (O0 : Old Z n0 h0) :
    MF l y1 method_3_code 1 (some .int) ws ({ frames := 0, cells := 0, slots := 0, locals := 0 } : Room) Z #[(.int p1)] h0 (r1_1Q Z p1 h0 n0) := by
  refine own_in (plainFor_of_name pn_com_example_agave_agave_store_StoredRequestIsSameRequestPinLaw) #[iv p1] (fun _ => by first | (simp [entryFrame, mkF, argsToLocals, Value.category]; done) | rfl) ?_
  intro p e s m below meth c s₁ Bd hx hby hml hown hnm hZ e0 X0
  have N0 := Fr.nil n0
  obtain ⟨fs, hr, hrun, hended, hW, hsame⟩ := X0.leave (v := some (.int ((p1 &&& (3 : Int32)) % (3 : Int32)))) (fun h => by rw [Bd.returns] at h; cases h)
  refine ⟨_, _, ?_, hrun, hended, _, _, rfl, ?_, ⟨_, rfl⟩, hW, hsame.mono (by decide) (by decide)⟩
  · show St p e below s₁ m 0 #[iv p1] [] _
    refine XS.iloadN X0.here hx rfl (hb hby d1_0) rfl ?_
    refine XS.iconst X0.here hx rfl (hb hby d1_1) ?_
    refine XS.iand X0.here hx rfl (hb hby d1_2) rfl ?_
    refine XS.iconst X0.here hx rfl (hb hby d1_3) ?_
    refine Jvm.RoadKit.iremM (g := (mkF m 4 #[iv p1] [(.int (3 : Int32)), (.int (p1 &&& (3 : Int32)))])) X0 hx rfl (hb hby d1_4) rfl (by decide : ¬ ((3 : Int32) = (0 : Int32))) ?_
    exact retI X0 hx Bd.returns (hb hby d1_5) hr
  · show r1_1Q Z p1 h0 n0 _ s₁.heap _
    rw [e0]
    exact ⟨rfl, N0, rfl⟩
theorem pd__I_I : parseMethodDescriptor "(I)I" = some ⟨[.int], some .int⟩ := by decide +kernel
theorem d0_4 : decode method_6_code 4 = .ok (.istore_n 1, 1) := by decide +kernel
theorem d0_5 : decode method_6_code 5 = .ok (.iload_n 1, 1) := by decide +kernel
theorem d0_6 : decode method_6_code 6 = .ok (.ifCond .ne 14, 3) := by decide +kernel
theorem d0_9 : decode method_6_code 9 = .ok (.new 30, 3) := by decide +kernel
theorem d0_12 : decode method_6_code 12 = .ok (.dup, 1) := by decide +kernel
theorem d0_13 : decode method_6_code 13 = .ok (.iconst 0, 1) := by decide +kernel
theorem d0_14 : decode method_6_code 14 = .ok (.newarray .char, 2) := by decide +kernel
theorem d0_16 : decode method_6_code 16 = .ok (.invokespecial 32, 3) := by decide +kernel
theorem d2_0 : decode jdk_42_method_3_code 0 = .ok (.aload_n 0, 1) := by decide +kernel
theorem d2_1 : decode jdk_42_method_3_code 1 = .ok (.aload_n 1, 1) := by decide +kernel
theorem d2_2 : decode jdk_42_method_3_code 2 = .ok (.iconst 0, 1) := by decide +kernel
theorem d2_3 : decode jdk_42_method_3_code 3 = .ok (.aload_n 1, 1) := by decide +kernel
theorem d2_4 : decode jdk_42_method_3_code 4 = .ok (.arraylength, 1) := by decide +kernel
theorem d2_5 : decode jdk_42_method_3_code 5 = .ok (.aconst_null, 1) := by decide +kernel
theorem d2_6 : decode jdk_42_method_3_code 6 = .ok (.invokespecial 27, 3) := by decide +kernel
theorem d3_0 : decode jdk_42_method_149_code 0 = .ok (.aload_n 0, 1) := by decide +kernel
theorem d3_1 : decode jdk_42_method_149_code 1 = .ok (.invokespecial 1, 3) := by decide +kernel
theorem d3_4 : decode jdk_42_method_149_code 4 = .ok (.iload_n 3, 1) := by decide +kernel
theorem d3_5 : decode jdk_42_method_149_code 5 = .ok (.ifCond .ne 22, 3) := by decide +kernel
theorem d3_8 : decode jdk_42_method_149_code 8 = .ok (.aload_n 0, 1) := by decide +kernel
theorem d3_9 : decode jdk_42_method_149_code 9 = .ok (.ldc 7, 2) := by decide +kernel
theorem strW : ∀ a ∈ Bundle.stringAtoms, a ∈ tables_1 := by decide +kernel
abbrev xF0 (Z : State) (h : Heap) (a : Addr) (v : Value) : Prop := Fld Z h a "java/lang/String" "value" "[B" v
abbrev xE1 (Z : State) (h : Heap) (a : Addr) : Prop := Exa Z h a "java/lang/String"
theorem d3_11 : decode jdk_42_method_149_code 11 = .ok (.getfield 9, 3) := by decide +kernel
theorem d3_14 : decode jdk_42_method_149_code 14 = .ok (.putfield 9, 3) := by decide +kernel
theorem d3_17 : decode jdk_42_method_149_code 17 = .ok (.aload_n 0, 1) := by decide +kernel
theorem d3_18 : decode jdk_42_method_149_code 18 = .ok (.ldc 7, 2) := by decide +kernel
theorem d3_20 : decode jdk_42_method_149_code 20 = .ok (.getfield 15, 3) := by decide +kernel
theorem d3_23 : decode jdk_42_method_149_code 23 = .ok (.putfield 15, 3) := by decide +kernel
abbrev xF2 (Z : State) (h : Heap) (a : Addr) (v : Value) : Prop := Fld Z h a "java/lang/String" "coder" "B" v
theorem d3_26 : decode jdk_42_method_149_code 26 = .ok (.return_, 1) := by decide +kernel
abbrev y3 : MethodName := ⟨"java/lang/String", "<init>", "([CIILjava/lang/Void;)V"⟩
theorem pn_java_lang_String : plainName "java/lang/String" = true := by first | (simp [plainName, overriddenIn]; done) | decide +kernel
def r3_1Q (Z : State) (a1 : Addr) (a2 : Addr) (h0 : Heap) (n0 : Nat) (v : Option Value) (h : Heap) (L : List Loc) : Prop := ∃ (b4 : Addr) (k4 : ClassId), v = none ∧ Fr n0 L ∧ Keep h0 h [a1] ∧ xF0 Z h a1 (.ref b4) ∧ xE1 Z h a1 ∧ xF2 Z h a1 (.int (0 : Int32)) ∧ Arv Z h b4 k4 .byte (own_tn []) (own_tb []) (.int (0 : Int32))
set_option maxRecDepth 65536 in
set_option maxHeartbeats 40000000 in
theorem r3_1 (l : Launch) (Z : State) (a0 : Array Value) (hw : HW a0 Z) (ws : List Jvm.Cond) (a1 : Addr) (a2 : Addr) (h0 : Heap) (n0 : Nat) (O0 : Old Z n0 h0) (H5 : xF0 Z h0 a1 .null) (H6 : xE1 Z h0 a1) (H13 : n0 ≤ a1) (H20 : xF2 Z h0 a1 (.int (0 : Int32))) :
    MFH l y3 jdk_42_method_149_code 6 none ws ({ frames := 1, cells := 4, slots := 8, locals := 12 } : Room) Z #[(.ref a1), (.ref a2), (.int (0 : Int32)), (.int (0 : Int32)), .null] h0 (r3_1Q Z a1 a2 h0 n0) := by
  refine own_inH (plainFor_of_name pn_java_lang_String) #[rv a1, rv a2, iv (0 : Int32), iv (0 : Int32), .val .null, un] (fun _ => by first | (simp [entryFrame, mkF, argsToLocals, Value.category]; done) | rfl) ?_
  intro p e s m below meth c s₁ Bd hx hby hml hown hnm hZ hh C0 e0 X0
  have N0 := Fr.nil n0
  obtain ⟨T3, X3, e3, st3⟩ := initO X0 hx hZ hown (ow hw 21 rfl) (ow hw 22 rfl) (ow hw 23 rfl) e0 (g := (mkF m 1 #[rv a1, rv a2, iv (0 : Int32), iv (0 : Int32), .val .null, un] [(.ref a1)])) rfl (by rw [hml]; rfl) rfl (hb hby d3_1) (by decide) (W := 0) wf (by decide)
  have sf7 := own_safeN (EL := EL0) hZ.alike H6 H5
  obtain ⟨a4, T4, h4, kk4, b4, k4, X4, e4, E4, hS4, hk4, hZ4, hown4, Ea4, Fc4, Fv4, Ab4, -, -, Cq4, -, hne4, st4⟩ := ldcCH (s := s) (vm0 := s.vm) X3 hx hZ (own := "java/lang/String") hown (ow hw 24 rfl) (fun d hd => hw d (strW d hd)) e3 (State.WarmedH.since (State.WarmedH.refl s) 0) (Nat.zero_le _) (own_EW hw) (List.mem_of_getElem? (i := 1) rfl) C0.1 (vs := []) (z := 0) own_lit0 (by decide) rfl (g := (mkF m 9 #[rv a1, rv a2, iv (0 : Int32), iv (0 : Int32), .val .null, un] [(.ref a1)])) rfl (hb hby d3_9) (n := 0) (by decide) (by decide) (by decide) (by decide)
  have O_E4 : Old Z n0 h4 := O0.ext E4
  have Kp_E4 : Keep h0 h4 [a1] := (Keep.refl h0 [a1]).ext E4
  have c_E4 := Cq4
  have C_E4 := C0.trans c_E4
  have Av4 : Arv Z h4 b4 k4 .byte (own_tn []) (own_tb []) (.int (0 : Int32)) := Ab4
  have sf8 := (c_E4.safe H6.lt sf7)
  have ne4_1000002 := hne4 _ sf8
  obtain ⟨T9, X9, e9, st9⟩ := gF X4 hx hZ4 hown4 (ow hw 30 rfl) e4 Fv4 (g := (mkF m 11 #[rv a1, rv a2, iv (0 : Int32), iv (0 : Int32), .val .null, un] [(.ref a4), (.ref a1)])) rfl rfl (hb hby d3_11)
  have f10 := (H5.ext E4)
  have f11 := (H6.ext E4)
  obtain ⟨T12, h12, X12, e12, W12, st12⟩ := pF X9 hx hZ4 hown4 (ow hw 30 rfl) e9 f10 f11 (Or.inr ⟨(ow hw 26 rfl), rfl, hnm⟩) (ow hw 11 rfl) (ty := (.array .byte)) (by decide) rfl rfl (g := (mkF m 14 #[rv a1, rv a2, iv (0 : Int32), iv (0 : Int32), .val .null, un] [(.ref b4), (.ref a1)])) rfl rfl (hb hby d3_14)
  have O_W12 : Old Z n0 h12 := O_E4.wr W12 H13
  have Kp_W12 : Keep h0 h12 [a1] := Kp_E4.wr W12 (Or.inl (List.mem_of_getElem? (i := 0) rfl))
  have c_W12 := CHr.wr W12 sf8 C_E4.1
  have C_W12 := C_E4.trans c_W12
  have N14 := Fr.snoc X12 N0 H13
  have f15 := f10.same W12
  have sf17 := (c_W12.safe f11.lt sf8)
  obtain ⟨a16, T16, h16, kk16, b16, k16, X16, e16, E16, hS16, hk16, hZ16, hown16, Ea16, Fc16, Fv16, Ab16, -, -, Cq16, -, hne16, st16⟩ := ldcCH (s := s) (vm0 := T4.vm) X12 hx hZ4 (own := "java/lang/String") hown4 (ow hw 24 rfl) (fun d hd => hw d (strW d hd)) e12 hS4 (Nat.le_trans hk4 (Keep.of_wr W12).1) (own_EW hw) (List.mem_of_getElem? (i := 1) rfl) C_W12.1 (vs := []) (z := 0) own_lit0 (by decide) rfl (g := (mkF m 18 #[rv a1, rv a2, iv (0 : Int32), iv (0 : Int32), .val .null, un] [(.ref a1)])) rfl (hb hby d3_18) (n := 0) (by decide) (by decide) (by decide) (by decide)
  have O_E16 : Old Z n0 h16 := O_W12.ext E16
  have Kp_E16 : Keep h0 h16 [a1] := Kp_W12.ext E16
  have c_E16 := Cq16
  have C_E16 := C_W12.trans c_E16
  have Av16 : Arv Z h16 b16 k16 .byte (own_tn []) (own_tb []) (.int (0 : Int32)) := Ab16
  have sf18 := (c_E16.safe (f11.wr W12).lt sf17)
  have ne16_1000002 := hne16 _ sf18
  obtain ⟨T19, X19, e19, st19⟩ := gF X16 hx hZ16 hown16 (ow hw 31 rfl) e16 Fc16 (g := (mkF m 20 #[rv a1, rv a2, iv (0 : Int32), iv (0 : Int32), .val .null, un] [(.ref a16), (.ref a1)])) rfl rfl (hb hby d3_20)
  have f21 := ((f11.wr W12).ext E16)
  have f22 := (((H20.ext E4).other W12 (Or.inr (slot_ne (Or.inr (ow hw 27 rfl)) (Or.inr (ow hw 26 rfl)) (by decide) (t := .byte) (t' := (.array .byte)) (by decide) (by decide)))).ext E16)
  obtain ⟨T23, h23, X23, e23, W23, st23⟩ := pF X19 hx hZ16 hown16 (ow hw 31 rfl) e19 f22 f21 (Or.inr ⟨(ow hw 27 rfl), rfl, hnm⟩) (ow hw 11 rfl) (ty := .byte) (by decide) rfl rfl (g := (mkF m 23 #[rv a1, rv a2, iv (0 : Int32), iv (0 : Int32), .val .null, un] [(.int (0 : Int32)), (.ref a1)])) rfl rfl (hb hby d3_23)
  have O_W23 : Old Z n0 h23 := O_E16.wr W23 H13
  have Kp_W23 : Keep h0 h23 [a1] := Kp_E16.wr W23 (Or.inl (List.mem_of_getElem? (i := 0) rfl))
  have c_W23 := CHr.wr W23 sf18 C_E16.1
  have C_W23 := C_E16.trans c_W23
  have N24 := Fr.snoc X23 N14 H13
  have f25 := f22.same W23
  have f26 := (f21.wr W23)
  have f27 := ((f15.ext E16).other W23 (Or.inr (slot_ne (Or.inr (ow hw 26 rfl)) (Or.inr (ow hw 27 rfl)) (by decide) (t := (.array .byte)) (t' := .byte) (by decide) (by decide))))
  have f28 := (((Av4.other W12 (Ne.symm ne4_1000002.2)).ext E16).other W23 (Ne.symm ne4_1000002.2))
  refine finH (Q := r3_1Q Z a1 a2 h0 n0) (rm := ({ frames := 1, cells := 4, slots := 8, locals := 12 } : Room)) (vm := T16.vm) Bd X23 hZ16 (own_EW hw) C_W23 hh e23 hS16 (Nat.le_trans hk16 (Keep.of_wr W23).1) (none) (fun _ => rfl) ⟨b4, k4, rfl, N24, Kp_W23, f27, f26, f25, f28⟩ (by decide) (by decide) fun fs hr => ?_
  show St p e below s₁ m 0 #[rv a1, rv a2, iv (0 : Int32), iv (0 : Int32), .val .null, un] [] _
  refine XS.aloadN X0.here hx rfl (hb hby d3_0) rfl rfl ?_
  refine st3 _ ?_
  refine XS.iloadN X3.here hx rfl (hb hby d3_4) rfl ?_
  refine XS.ifNo X3.here hx rfl (hb hby d3_5) rfl ((if0 _ _).trans (teq (rfl : (0 : Int32) = (0 : Int32))).2) ?_
  refine XS.aloadN X3.here hx rfl (hb hby d3_8) rfl rfl ?_
  refine st4 _ ?_
  refine st9 _ ?_
  refine st12 _ ?_
  refine XS.aloadN X12.here hx rfl (hb hby d3_17) rfl rfl ?_
  refine st16 _ ?_
  refine st19 _ ?_
  refine st23 _ ?_
  exact X23.returnOut hx Bd.returns (hb hby d3_26) hr
theorem pd___CIILjava_lang_Void__V : parseMethodDescriptor "([CIILjava/lang/Void;)V" = some ⟨[(.array .char), .int, .int, (.object "java/lang/Void")], none⟩ := by decide +kernel
theorem d2_9 : decode jdk_42_method_3_code 9 = .ok (.return_, 1) := by decide +kernel
abbrev y2 : MethodName := ⟨"java/lang/String", "<init>", "([C)V"⟩
def r2_1Q (Z : State) (a1 : Addr) (a2 : Addr) (k4 : ClassId) (h0 : Heap) (n0 : Nat) (v : Option Value) (h : Heap) (L : List Loc) : Prop := ∃ (b10_0 : Addr) (k10_0 : ClassId), v = none ∧ Fr n0 L ∧ Keep h0 h [a1] ∧ xF0 Z h a1 (.ref b10_0) ∧ xE1 Z h a1 ∧ xF2 Z h a1 (.int (0 : Int32)) ∧ Arv Z h b10_0 k10_0 .byte (own_tn []) (own_tb []) (.int (0 : Int32))
set_option maxRecDepth 65536 in
set_option maxHeartbeats 40000000 in
theorem r2_1 (l : Launch) (Z : State) (a0 : Array Value) (hw : HW a0 Z) (ws : List Jvm.Cond) (a1 : Addr) (a2 : Addr) (k4 : ClassId) (h0 : Heap) (n0 : Nat) (O0 : Old Z n0 h0) (H5 : Arv Z h0 a2 k4 .char (0 : Int32) [] (.int (0 : Int32))) (H6 : xF0 Z h0 a1 .null) (H7 : xE1 Z h0 a1) (H8 : n0 ≤ a1) (H9 : xF2 Z h0 a1 (.int (0 : Int32))) :
    MFH l y2 jdk_42_method_3_code 2 none ws ({ frames := 2, cells := 4, slots := 8, locals := 29 } : Room) Z #[(.ref a1), (.ref a2)] h0 (r2_1Q Z a1 a2 k4 h0 n0) := by
  refine own_inH (plainFor_of_name pn_java_lang_String) #[rv a1, rv a2] (fun _ => by first | (simp [entryFrame, mkF, argsToLocals, Value.category]; done) | rfl) ?_
  intro p e s m below meth c s₁ Bd hx hby hml hown hnm hZ hh C0 e0 X0
  have N0 := Fr.nil n0
  obtain ⟨cl3, Ar3, q3, S3, M3, H3, G3⟩ := id H5
  obtain ⟨T10, Lc10, _, X10, hSq10, hg10, Cq10, hQ10, st10⟩ := flH X0 (X0.specialBackS hx (y := y3) rfl hown (mvT hZ (ow hw 17 rfl)) (mvT hZ (ow hw 18 rfl)) (mvT hZ (ow hw 20 rfl)) (by decide) (backOfSH (s := s) (vm0 := s.vm) (W := 0) (r3_1 l Z a0 hw [] a1 a2 h0 n0 O0 H6 H7 H8 H9) hZ (ow hw 20 rfl) (ow hw 12 rfl) (by decide) (by decide) (own_EW hw) C0.1) (g := (mkF m 6 #[rv a1, rv a2] [.null, (.int (0 : Int32)), (.int (0 : Int32)), (.ref a2), (.ref a1)])) rfl (by rw [hml]; rfl) (Steps.refl _) (a := a1) (argsL := [(.ref a2), (.int (0 : Int32)), (.int (0 : Int32)), .null]) (rest := []) (lenOf pd___CIILjava_lang_Void__V rfl) rfl wf (hb hby d2_6) (fun _ _ => ⟨rfl, e0, (by decide : 0 + 4 ≤ _), (by decide : 0 + 8 ≤ _)⟩))
  obtain ⟨Y10, hS10, hZ10, hown10⟩ := rebS (s := s) (vm0 := s.vm) (State.WarmedH.since (State.WarmedH.refl s) 0) (by rw [e0]; exact (Nat.zero_le _)) X10 hSq10 hg10 hZ hown
  obtain ⟨b10_0, k10_0, rfl, N10q, K10, f10_1, f10_2, f10_3, f10_4⟩ := hQ10
  have N10 := Fr.app N0 N10q
  have O_K10 : Old Z n0 T10.heap := O0.keep K10 (allS H8 all0)
  have Kp_K10 : Keep h0 T10.heap [a1] := (Keep.refl h0 [a1]).trans K10 (allS (Or.inl (List.mem_of_getElem? (i := 0) rfl)) all0)
  have c_K10 := Cq10
  have C_K10 := C0.trans c_K10
  refine finH (Q := r2_1Q Z a1 a2 k4 h0 n0) (rm := ({ frames := 2, cells := 4, slots := 8, locals := 29 } : Room)) (vm := T10.vm) Bd Y10 hZ10 (own_EW hw) C_K10 hh rfl hS10 (Nat.le_refl _) (none) (fun _ => rfl) ⟨b10_0, k10_0, rfl, N10, Kp_K10, f10_1, f10_2, f10_3, f10_4⟩ (by decide) (by decide) fun fs hr => ?_
  show St p e below s₁ m 0 #[rv a1, rv a2] [] _
  refine XS.aloadN X0.here hx rfl (hb hby d2_0) rfl rfl ?_
  refine XS.aloadN X0.here hx rfl (hb hby d2_1) rfl rfl ?_
  refine XS.iconst X0.here hx rfl (hb hby d2_2) ?_
  refine XS.aloadN X0.here hx rfl (hb hby d2_3) rfl rfl ?_
  refine X0.arraylength hx (by rw [e0]; exact Ar3.1) (State.isArrayOf_alike hZ.alike Ar3.2.1) (g := (mkF m 4 #[rv a1, rv a2] [(.ref a2), (.int (0 : Int32)), (.ref a2), (.ref a1)])) rfl rfl (hb hby d2_4) _ ?_
  rw [len_of S3 M3]
  refine XS.aconstNull X0.here hx rfl (hb hby d2_5) ?_
  refine st10.trans ?_
  exact Y10.returnOut hx Bd.returns (hb hby d2_9) hr
theorem pd___C_V : parseMethodDescriptor "([C)V" = some ⟨[(.array .char)], none⟩ := by decide +kernel
theorem d0_19 : decode method_6_code 19 = .ok (.areturn, 1) := by decide +kernel
theorem d0_20 : decode method_6_code 20 = .ok (.iload_n 1, 1) := by decide +kernel
theorem d0_21 : decode method_6_code 21 = .ok (.iconst 1, 1) := by decide +kernel
theorem d0_22 : decode method_6_code 22 = .ok (.if_icmp .ne 11, 3) := by decide +kernel
theorem d0_25 : decode method_6_code 25 = .ok (.iload_n 0, 1) := by decide +kernel
theorem d0_26 : decode method_6_code 26 = .ok (.invokestatic 35, 3) := by decide +kernel
theorem d4_0 : decode method_4_code 0 = .ok (.iload_n 0, 1) := by decide +kernel
theorem d4_1 : decode method_4_code 1 = .ok (.iconst 2, 1) := by decide +kernel
theorem d4_2 : decode method_4_code 2 = .ok (.iushr, 1) := by decide +kernel
theorem d4_3 : decode method_4_code 3 = .ok (.sipush 255, 3) := by decide +kernel
theorem d4_6 : decode method_4_code 6 = .ok (.iand, 1) := by decide +kernel
theorem d4_7 : decode method_4_code 7 = .ok (.i2c, 1) := by decide +kernel
theorem d4_8 : decode method_4_code 8 = .ok (.ireturn, 1) := by decide +kernel
abbrev y4 : MethodName := ⟨"com/example/agave/agave/store/StoredRequestIsSameRequestPinLaw", "first", "(I)C"⟩
def r4_1Q (Z : State) (p1 : Int32) (h0 : Heap) (n0 : Nat) (v : Option Value) (h : Heap) (L : List Loc) : Prop := v = some (.int (nar .char ((((p1.toUInt32 >>> ((2 : Int32) &&& 31).toUInt32).toInt32) &&& (255 : Int32)).toUInt32.toUInt16.toUInt32.toInt32))) ∧ Fr n0 L ∧ h = h0
set_option maxRecDepth 65536 in
set_option maxHeartbeats 40000000 in
theorem r4_1 (l : Launch) (Z : State) (a0 : Array Value) (hw : HW a0 Z) (ws : List Jvm.Cond) (p1 : Int32) (h0 : Heap) (n0 : Nat) (O0 : Old Z n0 h0) :
    MF l y4 method_4_code 1 (some .char) ws ({ frames := 0, cells := 0, slots := 0, locals := 0 } : Room) Z #[(.int p1)] h0 (r4_1Q Z p1 h0 n0) := by
  refine own_in (plainFor_of_name pn_com_example_agave_agave_store_StoredRequestIsSameRequestPinLaw) #[iv p1] (fun _ => by first | (simp [entryFrame, mkF, argsToLocals, Value.category]; done) | rfl) ?_
  intro p e s m below meth c s₁ Bd hx hby hml hown hnm hZ e0 X0
  have N0 := Fr.nil n0
  obtain ⟨fs, hr, hrun, hended, hW, hsame⟩ := X0.leave (v := some (.int (nar .char ((((p1.toUInt32 >>> ((2 : Int32) &&& 31).toUInt32).toInt32) &&& (255 : Int32)).toUInt32.toUInt16.toUInt32.toInt32)))) (fun h => by rw [Bd.returns] at h; cases h)
  refine ⟨_, _, ?_, hrun, hended, _, _, rfl, ?_, ⟨_, rfl⟩, hW, hsame.mono (by decide) (by decide)⟩
  · show St p e below s₁ m 0 #[iv p1] [] _
    refine XS.iloadN X0.here hx rfl (hb hby d4_0) rfl ?_
    refine XS.iconst X0.here hx rfl (hb hby d4_1) ?_
    refine XS.iushr X0.here hx rfl (hb hby d4_2) rfl ?_
    refine XS.sipush X0.here hx rfl (hb hby d4_3) ?_
    refine XS.iand X0.here hx rfl (hb hby d4_6) rfl ?_
    refine XS.i2c X0.here hx rfl (hb hby d4_7) rfl ?_
    exact retN X0 hx (t := .char) Bd.returns (by simp) (hb hby d4_8) hr
  · show r4_1Q Z p1 h0 n0 _ s₁.heap _
    rw [e0]
    exact ⟨rfl, N0, rfl⟩
theorem pd__I_C : parseMethodDescriptor "(I)C" = some ⟨[.int], some .char⟩ := by decide +kernel
theorem d0_29 : decode method_6_code 29 = .ok (.invokestatic 39, 3) := by decide +kernel
theorem d5_0 : decode jdk_42_method_139_code 0 = .ok (.getstatic 38, 3) := by decide +kernel
theorem d5_3 : decode jdk_42_method_139_code 3 = .ok (.ifCond .eq 23, 3) := by decide +kernel
theorem d5_6 : decode jdk_42_method_139_code 6 = .ok (.iload_n 0, 1) := by decide +kernel
theorem d5_7 : decode jdk_42_method_139_code 7 = .ok (.invokestatic 1015, 3) := by decide +kernel
theorem d6_0 : decode jdk_43_method_3_code 0 = .ok (.iload_n 0, 1) := by decide +kernel
theorem d6_1 : decode jdk_43_method_3_code 1 = .ok (.sipush 255, 3) := by decide +kernel
theorem d6_4 : decode jdk_43_method_3_code 4 = .ok (.if_icmp .gt 7, 3) := by decide +kernel
theorem d6_7 : decode jdk_43_method_3_code 7 = .ok (.iconst 1, 1) := by decide +kernel
theorem d6_8 : decode jdk_43_method_3_code 8 = .ok (.goto 4, 3) := by decide +kernel
theorem d6_12 : decode jdk_43_method_3_code 12 = .ok (.ireturn, 1) := by decide +kernel
abbrev y6 : MethodName := ⟨"java/lang/StringLatin1", "canEncode", "(C)Z"⟩
theorem pn_java_lang_StringLatin1 : plainName "java/lang/StringLatin1" = true := by first | (simp [plainName, overriddenIn]; done) | decide +kernel
def r6_1Q (Z : State) (p1 : Int32) (h0 : Heap) (n0 : Nat) (v : Option Value) (h : Heap) (L : List Loc) : Prop := v = some (.int (1 : Int32)) ∧ Fr n0 L ∧ h = h0
set_option maxRecDepth 65536 in
set_option maxHeartbeats 40000000 in
theorem r6_1 (l : Launch) (Z : State) (a0 : Array Value) (hw : HW a0 Z) (ws : List Jvm.Cond) (p1 : Int32) (h0 : Heap) (n0 : Nat) (O0 : Old Z n0 h0) (hc2 : ¬ ((255 : Int32) < p1)) :
    MF l y6 jdk_43_method_3_code 1 (some .boolean) ws ({ frames := 0, cells := 0, slots := 0, locals := 0 } : Room) Z #[(.int p1)] h0 (r6_1Q Z p1 h0 n0) := by
  refine own_in (plainFor_of_name pn_java_lang_StringLatin1) #[iv p1] (fun _ => by first | (simp [entryFrame, mkF, argsToLocals, Value.category]; done) | rfl) ?_
  intro p e s m below meth c s₁ Bd hx hby hml hown hnm hZ e0 X0
  have N0 := Fr.nil n0
  obtain ⟨fs, hr, hrun, hended, hW, hsame⟩ := X0.leave (v := some (.int (1 : Int32))) (fun h => by rw [Bd.returns] at h; cases h)
  refine ⟨_, _, ?_, hrun, hended, _, _, rfl, ?_, ⟨_, rfl⟩, hW, hsame.mono (by decide) (by decide)⟩
  · show St p e below s₁ m 0 #[iv p1] [] _
    refine XS.iloadN X0.here hx rfl (hb hby d6_0) rfl ?_
    refine XS.sipush X0.here hx rfl (hb hby d6_1) ?_
    refine XS.icmpNo X0.here hx rfl (hb hby d6_4) rfl (flt hc2).2.2.1 ?_
    refine XS.iconst X0.here hx rfl (hb hby d6_7) ?_
    refine XS.goto X0.here hx rfl (pc0 := 8) (pc' := 12) rfl (hb hby d6_8) (by decide) (by decide) ?_
    exact retN X0 hx (t := .boolean) Bd.returns (by simp) (hb hby d6_12) hr
  · show r6_1Q Z p1 h0 n0 _ s₁.heap _
    rw [e0]
    exact ⟨rfl, N0, rfl⟩
theorem pd__C_Z : parseMethodDescriptor "(C)Z" = some ⟨[.char], some .boolean⟩ := by decide +kernel
theorem d5_10 : decode jdk_42_method_139_code 10 = .ok (.ifCond .eq 16, 3) := by decide +kernel
theorem d5_13 : decode jdk_42_method_139_code 13 = .ok (.new 10, 3) := by decide +kernel
theorem d5_16 : decode jdk_42_method_139_code 16 = .ok (.dup, 1) := by decide +kernel
theorem d5_17 : decode jdk_42_method_139_code 17 = .ok (.iload_n 0, 1) := by decide +kernel
theorem d5_18 : decode jdk_42_method_139_code 18 = .ok (.invokestatic 1018, 3) := by decide +kernel
theorem d7_0 : decode jdk_43_method_46_code 0 = .ok (.iconst 1, 1) := by decide +kernel
theorem d7_1 : decode jdk_43_method_46_code 1 = .ok (.newarray .byte, 2) := by decide +kernel
theorem d7_3 : decode jdk_43_method_46_code 3 = .ok (.dup, 1) := by decide +kernel
theorem d7_4 : decode jdk_43_method_46_code 4 = .ok (.iconst 0, 1) := by decide +kernel
theorem d7_5 : decode jdk_43_method_46_code 5 = .ok (.iload_n 0, 1) := by decide +kernel
theorem d7_6 : decode jdk_43_method_46_code 6 = .ok (.i2b, 1) := by decide +kernel
theorem d7_7 : decode jdk_43_method_46_code 7 = .ok (.bastore, 1) := by decide +kernel
theorem d7_8 : decode jdk_43_method_46_code 8 = .ok (.areturn, 1) := by decide +kernel
abbrev xE3 (Z : State) (h : Heap) (a : Addr) : Prop := Exa Z h a "[B"
abbrev y7 : MethodName := ⟨"java/lang/StringLatin1", "toBytes", "(C)[B"⟩
def r7_1Q (Z : State) (p1 : Int32) (h0 : Heap) (n0 : Nat) (v : Option Value) (h : Heap) (L : List Loc) : Prop := ∃ (b2 : Addr) (k2 : ClassId), v = some (.ref b2) ∧ Fr n0 L ∧ Keep h0 h [] ∧ h0.size ≤ b2 ∧ Arv Z h b2 k2 .byte (1 : Int32) [(.int (p1.toInt8.toInt32))] (.int (0 : Int32)) ∧ xE3 Z h b2
set_option maxRecDepth 65536 in
set_option maxHeartbeats 40000000 in
theorem r7_1 (l : Launch) (Z : State) (a0 : Array Value) (hw : HW a0 Z) (ws : List Jvm.Cond) (p1 : Int32) (h0 : Heap) (n0 : Nat) (O0 : Old Z n0 h0) :
    MF l y7 jdk_43_method_46_code 1 (some (.array .byte)) ws ({ frames := 0, cells := 1, slots := 1, locals := 0 } : Room) Z #[(.int p1)] h0 (r7_1Q Z p1 h0 n0) := by
  refine own_in (plainFor_of_name pn_java_lang_StringLatin1) #[iv p1] (fun _ => by first | (simp [entryFrame, mkF, argsToLocals, Value.category]; done) | rfl) ?_
  intro p e s m below meth c s₁ Bd hx hby hml hown hnm hZ e0 X0
  have N0 := Fr.nil n0
  obtain ⟨T2, h2, k2, X2, e2, E2, A2, C2, st2⟩ := newPE X0 hx hZ (aty := .byte) (ow hw 25 rfl) e0 (g := (mkF m 1 #[iv p1] [(.int (1 : Int32))])) rfl (hb hby d7_1) rfl (by decide) (cap := 1) (by decide) (by decide) (by decide) (by decide) (ad := "[B") (by decide)
  obtain ⟨b2, g2⟩ : ∃ z, z = h0.size := ⟨_, rfl⟩
  rw [← g2] at A2 C2 st2
  have O_E2 : Old Z n0 h2 := O0.ext E2
  have Kp_E2 : Keep h0 h2 [] := (Keep.refl h0 []).ext E2
  have V2 : Arv Z h2 b2 k2 .byte (1 : Int32) [(.int (0 : Int32))] (.int (0 : Int32)) := (Arv.new A2 (by decide)).pad (pad_rep [] (.int (0 : Int32)) 1)
  obtain ⟨cl3, Ar3, q3, S3, M3, H3, G3⟩ := id V2
  have hin3 : ¬ ((0 : Int32) < 0 ∨ cl3.slots.size ≤ ((0 : Int32)).toNatClampNeg) := inb_of S3 ⟨by decide, by decide⟩
  obtain ⟨T3, h3, X3, e3, W3, st3⟩ := stB X2 hx hZ e2 Ar3 (j := (0 : Int32)) hin3 (g := (mkF m 7 #[iv p1] [(.int (p1.toInt8.toInt32)), (.int (0 : Int32)), (.ref b2), (.ref b2)])) rfl rfl (hb hby d7_7)
  have g5 : n0 ≤ b2 := Nat.le_trans (Nat.le_trans (Nat.le_of_eq O0.1.symm) O0.2.1) (Nat.le_of_eq g2.symm)
  have z6 : h0.size ≤ b2 := Nat.le_trans (Keep.refl h0 []).1 (Nat.le_of_eq g2.symm)
  have O_W3 : Old Z n0 h3 := O_E2.wr W3 g5
  have Kp_W3 : Keep h0 h3 [] := Kp_E2.wr W3 (Or.inr z6)
  have N7 := Fr.snoc X3 N0 g5
  have f4 : Arv Z h3 b2 k2 .byte (1 : Int32) [(.int (p1.toInt8.toInt32))] (.int (0 : Int32)) := by simpa only [own_narb, own_i8, List.set] using Arv.set Ar3 q3 S3 M3 H3 G3 (fits_nar_byte _) W3 0 rfl (Nat.le_of_ble_eq_true rfl)
  have f8 := (C2.wr W3)
  obtain ⟨fs, hr, hrun, hended, hW, hsame⟩ := X3.leave (v := some (.ref b2)) (fun h => by rw [Bd.returns] at h; cases h)
  refine ⟨_, _, ?_, hrun, hended, _, _, rfl, ?_, ⟨_, rfl⟩, hW, hsame.mono (by decide) (by decide)⟩
  · show St p e below s₁ m 0 #[iv p1] [] _
    refine XS.iconst X0.here hx rfl (hb hby d7_0) ?_
    refine st2 _ ?_
    refine XS.dup X2.here hx rfl (hb hby d7_3) rfl rfl ?_
    refine XS.iconst X2.here hx rfl (hb hby d7_4) ?_
    refine XS.iloadN X2.here hx rfl (hb hby d7_5) rfl ?_
    refine XS.i2b X2.here hx rfl (hb hby d7_6) rfl ?_
    refine st3 _ ?_
    jvm_step X3.here [X3.here.top, hx, (hb hby d7_8), X3.method', Bd.returns, Value.isRef, FieldType.isReference]
    first | (intro acts; rw [hr _ acts rfl rfl rfl]) | rw [hr _ _ rfl rfl rfl]
    exact Steps.refl _
  · show r7_1Q Z p1 h0 n0 _ T3.heap _
    rw [e3]
    exact ⟨b2, k2, rfl, N7, Kp_W3, z6, f4, f8⟩
theorem pd__C__B : parseMethodDescriptor "(C)[B" = some ⟨[.char], some (.array .byte)⟩ := by decide +kernel
theorem d5_21 : decode jdk_42_method_139_code 21 = .ok (.iconst 0, 1) := by decide +kernel
theorem d5_22 : decode jdk_42_method_139_code 22 = .ok (.invokespecial 209, 3) := by decide +kernel
theorem d8_0 : decode jdk_42_method_151_code 0 = .ok (.aload_n 0, 1) := by decide +kernel
theorem d8_1 : decode jdk_42_method_151_code 1 = .ok (.invokespecial 1, 3) := by decide +kernel
theorem d8_4 : decode jdk_42_method_151_code 4 = .ok (.aload_n 0, 1) := by decide +kernel
theorem d8_5 : decode jdk_42_method_151_code 5 = .ok (.aload_n 1, 1) := by decide +kernel
theorem d8_6 : decode jdk_42_method_151_code 6 = .ok (.putfield 9, 3) := by decide +kernel
theorem d8_9 : decode jdk_42_method_151_code 9 = .ok (.aload_n 0, 1) := by decide +kernel
theorem d8_10 : decode jdk_42_method_151_code 10 = .ok (.iload_n 2, 1) := by decide +kernel
theorem d8_11 : decode jdk_42_method_151_code 11 = .ok (.putfield 15, 3) := by decide +kernel
theorem d8_14 : decode jdk_42_method_151_code 14 = .ok (.return_, 1) := by decide +kernel
abbrev y8 : MethodName := ⟨"java/lang/String", "<init>", "([BB)V"⟩
def r8_1Q (Z : State) (a1 : Addr) (a2 : Addr) (h0 : Heap) (n0 : Nat) (v : Option Value) (h : Heap) (L : List Loc) : Prop := v = none ∧ Fr n0 L ∧ Keep h0 h [a1] ∧ xF0 Z h a1 (.ref a2) ∧ xE1 Z h a1 ∧ xF2 Z h a1 (.int (0 : Int32))
set_option maxRecDepth 65536 in
set_option maxHeartbeats 40000000 in
theorem r8_1 (l : Launch) (Z : State) (a0 : Array Value) (hw : HW a0 Z) (ws : List Jvm.Cond) (a1 : Addr) (a2 : Addr) (h0 : Heap) (n0 : Nat) (O0 : Old Z n0 h0) (H4 : xF0 Z h0 a1 .null) (H5 : xE1 Z h0 a1) (H7 : n0 ≤ a1) (H10 : xF2 Z h0 a1 (.int (0 : Int32))) :
    MF l y8 jdk_42_method_151_code 3 none ws ({ frames := 1, cells := 0, slots := 0, locals := 12 } : Room) Z #[(.ref a1), (.ref a2), (.int (0 : Int32))] h0 (r8_1Q Z a1 a2 h0 n0) := by
  refine own_in (plainFor_of_name pn_java_lang_String) #[rv a1, rv a2, iv (0 : Int32)] (fun _ => by first | (simp [entryFrame, mkF, argsToLocals, Value.category]; done) | rfl) ?_
  intro p e s m below meth c s₁ Bd hx hby hml hown hnm hZ e0 X0
  have N0 := Fr.nil n0
  obtain ⟨T3, X3, e3, st3⟩ := initO X0 hx hZ hown (ow hw 21 rfl) (ow hw 22 rfl) (ow hw 23 rfl) e0 (g := (mkF m 1 #[rv a1, rv a2, iv (0 : Int32)] [(.ref a1)])) rfl (by rw [hml]; rfl) rfl (hb hby d8_1) (by decide) (W := 0) wf (by decide)
  obtain ⟨T6, h6, X6, e6, W6, st6⟩ := pF X3 hx hZ hown (ow hw 30 rfl) e3 H4 H5 (Or.inr ⟨(ow hw 26 rfl), rfl, hnm⟩) (ow hw 11 rfl) (ty := (.array .byte)) (by decide) rfl rfl (g := (mkF m 6 #[rv a1, rv a2, iv (0 : Int32)] [(.ref a2), (.ref a1)])) rfl rfl (hb hby d8_6)
  have O_W6 : Old Z n0 h6 := O0.wr W6 H7
  have Kp_W6 : Keep h0 h6 [a1] := (Keep.refl h0 [a1]).wr W6 (Or.inl (List.mem_of_getElem? (i := 0) rfl))
  have N8 := Fr.snoc X6 N0 H7
  have f9 := H4.same W6
  have f11 := (H5.wr W6)
  have f12 := (H10.other W6 (Or.inr (slot_ne (Or.inr (ow hw 27 rfl)) (Or.inr (ow hw 26 rfl)) (by decide) (t := .byte) (t' := (.array .byte)) (by decide) (by decide))))
  obtain ⟨T13, h13, X13, e13, W13, st13⟩ := pF X6 hx hZ hown (ow hw 31 rfl) e6 f12 f11 (Or.inr ⟨(ow hw 27 rfl), rfl, hnm⟩) (ow hw 11 rfl) (ty := .byte) (by decide) rfl rfl (g := (mkF m 11 #[rv a1, rv a2, iv (0 : Int32)] [(.int (0 : Int32)), (.ref a1)])) rfl rfl (hb hby d8_11)
  have O_W13 : Old Z n0 h13 := O_W6.wr W13 H7
  have Kp_W13 : Keep h0 h13 [a1] := Kp_W6.wr W13 (Or.inl (List.mem_of_getElem? (i := 0) rfl))
  have N14 := Fr.snoc X13 N8 H7
  have f15 := f12.same W13
  have f16 := (f11.wr W13)
  have f17 := (f9.other W13 (Or.inr (slot_ne (Or.inr (ow hw 26 rfl)) (Or.inr (ow hw 27 rfl)) (by decide) (t := (.array .byte)) (t' := .byte) (by decide) (by decide))))
  obtain ⟨fs, hr, hrun, hended, hW, hsame⟩ := X13.leave (v := none) (fun _ => rfl)
  refine ⟨_, _, ?_, hrun, hended, _, _, rfl, ?_, ⟨_, rfl⟩, hW, hsame.mono (by decide) (by decide)⟩
  · show St p e below s₁ m 0 #[rv a1, rv a2, iv (0 : Int32)] [] _
    refine XS.aloadN X0.here hx rfl (hb hby d8_0) rfl rfl ?_
    refine st3 _ ?_
    refine XS.aloadN X3.here hx rfl (hb hby d8_4) rfl rfl ?_
    refine XS.aloadN X3.here hx rfl (hb hby d8_5) rfl rfl ?_
    refine st6 _ ?_
    refine XS.aloadN X6.here hx rfl (hb hby d8_9) rfl rfl ?_
    refine XS.iloadN X6.here hx rfl (hb hby d8_10) rfl ?_
    refine st13 _ ?_
    exact X13.returnOut hx Bd.returns (hb hby d8_14) hr
  · show r8_1Q Z a1 a2 h0 n0 _ T13.heap _
    rw [e13]
    exact ⟨rfl, N14, Kp_W13, f17, f16, f15⟩
theorem pd___BB_V : parseMethodDescriptor "([BB)V" = some ⟨[(.array .byte), .byte], none⟩ := by decide +kernel
theorem d5_25 : decode jdk_42_method_139_code 25 = .ok (.areturn, 1) := by decide +kernel
abbrev y5 : MethodName := ⟨"java/lang/String", "valueOf", "(C)Ljava/lang/String;"⟩
def r5_1Q (Z : State) (p1 : Int32) (p2 : Int32) (h0 : Heap) (n0 : Nat) (v : Option Value) (h : Heap) (L : List Loc) : Prop := ∃ (b8 : Addr) (b9_0 : Addr) (k9_0 : ClassId), v = some (.ref b8) ∧ Fr n0 L ∧ Keep h0 h [] ∧ h0.size ≤ b8 ∧ h0.size ≤ b9_0 ∧ b8 ≠ b9_0 ∧ xE1 Z h b8 ∧ xF0 Z h b8 (.ref b9_0) ∧ xF2 Z h b8 (.int (0 : Int32)) ∧ Arv Z h b9_0 k9_0 .byte (1 : Int32) [(.int (p1.toInt8.toInt32))] (.int (0 : Int32)) ∧ xE3 Z h b9_0
set_option maxRecDepth 65536 in
set_option maxHeartbeats 40000000 in
theorem r5_1 (l : Launch) (Z : State) (a0 : Array Value) (hw : HW a0 Z) (ws : List Jvm.Cond) (p1 : Int32) (p2 : Int32) (h0 : Heap) (n0 : Nat) (O0 : Old Z n0 h0) (H3 : Sta Z Z.heap "java/lang/String" "COMPACT_STRINGS" "Z" (.int p2)) (hc5 : ¬ (p2 = (0 : Int32))) (hc6 : ¬ ((255 : Int32) < p1)) :
    MF l y5 jdk_42_method_139_code 1 (some (.object "java/lang/String")) ws ({ frames := 2, cells := 2, slots := 5, locals := 27 } : Room) Z #[(.int p1)] h0 (r5_1Q Z p1 p2 h0 n0) := by
  refine own_in (plainFor_of_name pn_java_lang_String) #[iv p1] (fun _ => by first | (simp [entryFrame, mkF, argsToLocals, Value.category]; done) | rfl) ?_
  intro p e s m below meth c s₁ Bd hx hby hml hown hnm hZ e0 X0
  have N0 := Fr.nil n0
  obtain ⟨T4, X4, e4, st4⟩ := getS2 X0 hx hZ hown (host := "") (Or.inl (ow hw 38 rfl)) Via.refl e0 (H3.ext O0.2) (g := (mkF m 0 #[iv p1] [])) rfl (hb hby d5_0)
  obtain ⟨T7, Lc7, _, X7, hQ7, st7⟩ := flC X4 (Jvm.LawKit.callS X4 hx (y := y6) hown (mvT hZ (ow hw 71 rfl)) (mvT hZ (ow hw 72 rfl)) (mvT hZ (ow hw 73 rfl)) (mvT hZ (ow hw 74 rfl)) (by decide) (backOf (W := 0) (r6_1 l Z a0 hw [] p1 h0 n0 O0 hc6) hZ (ow hw 74 rfl) (ow hw 73 rfl) (by decide) (by decide)) (g := (mkF m 7 #[iv p1] [(.int p1)])) rfl (by rw [hml]; rfl) (argsL := [(.int p1)]) (rest := []) (lenOf pd__C_Z rfl) rfl wf (hb hby d5_7) (fun _ _ => ⟨rfl, e4, (by decide : 0 + 0 ≤ _), (by decide : 0 + 0 ≤ _)⟩))
  obtain ⟨rfl, N7q, e7⟩ := hQ7
  have N7 := Fr.app N0 N7q
  obtain ⟨T8, h8, X8, e8, E8, A8, D8, -, st8⟩ := newO X7 hx hZ hown (ow hw 75 rfl) (ow hw 11 rfl) (ow hw 12 rfl) e7 (g := (mkF m 13 #[iv p1] [])) rfl (hb hby d5_13) (by decide) (by decide)
  obtain ⟨b8, g8⟩ : ∃ z, z = h0.size := ⟨_, rfl⟩
  rw [← g8] at A8 D8 st8
  have O_E8 : Old Z n0 h8 := O0.ext E8
  have Kp_E8 : Keep h0 h8 [] := (Keep.refl h0 []).ext E8
  obtain ⟨T9, Lc9, _, X9, hQ9, st9⟩ := flC X8 (Jvm.LawKit.callS X8 hx (y := y7) hown (mvT hZ (ow hw 76 rfl)) (mvT hZ (ow hw 77 rfl)) (mvT hZ (ow hw 73 rfl)) (mvT hZ (ow hw 78 rfl)) (by decide) (backOf (W := 2) (r7_1 l Z a0 hw [] p1 h8 n0 O_E8) hZ (ow hw 78 rfl) (ow hw 73 rfl) (by decide) (by decide)) (g := (mkF m 18 #[iv p1] [(.int p1), (.ref b8), (.ref b8)])) rfl (by rw [hml]; rfl) (argsL := [(.int p1)]) (rest := [(.ref b8), (.ref b8)]) (lenOf pd__C__B rfl) rfl wf (hb hby d5_18) (fun _ _ => ⟨rfl, e8, (by decide : 1 + 1 ≤ _), (by decide : 4 + 1 ≤ _)⟩))
  obtain ⟨b9_0, k9_0, rfl, N9q, K9, lo9_1, f9_2, f9_3⟩ := hQ9
  have N9 := Fr.app N7 N9q
  have O_K9 : Old Z n0 T9.heap := O_E8.keep K9 all0
  have Kp_K9 : Keep h0 T9.heap [] := Kp_E8.trans K9 all0
  have f10 : xF0 Z h8 b8 .null := D8 (Or.inr (ow hw 26 rfl)) (ty := (.array .byte)) (by decide)
  have f11 := (f10.keep K9 nin0)
  have f12 := (A8.keep K9)
  have g13 : n0 ≤ b8 := Nat.le_trans (Nat.le_trans (Nat.le_of_eq O0.1.symm) O0.2.1) (Nat.le_of_eq g8.symm)
  have f14 : xF2 Z h8 b8 (.int (0 : Int32)) := D8 (Or.inr (ow hw 27 rfl)) (ty := .byte) (by decide)
  have f15 := (f14.keep K9 nin0)
  obtain ⟨T16, Lc16, _, X16, hQ16, st16⟩ := fl X9 (X9.specialBack hx (y := y8) rfl hown (mvT hZ (ow hw 79 rfl)) (mvT hZ (ow hw 80 rfl)) (mvT hZ (ow hw 81 rfl)) (by decide) (backOf (W := 1) (r8_1 l Z a0 hw [] b8 b9_0 T9.heap n0 O_K9 f11 f12 g13 f15) hZ (ow hw 81 rfl) (ow hw 12 rfl) (by decide) (by decide)) (g := (mkF m 22 #[iv p1] [(.int (0 : Int32)), (.ref b9_0), (.ref b8), (.ref b8)])) rfl (by rw [hml]; rfl) (Steps.refl _) (a := b8) (argsL := [(.ref b9_0), (.int (0 : Int32))]) (rest := [(.ref b8)]) (lenOf pd___BB_V rfl) rfl wf (hb hby d5_22) (fun _ _ => ⟨rfl, rfl, (by decide : 2 + 0 ≤ _), (by decide : 5 + 0 ≤ _)⟩))
  obtain ⟨rfl, N16q, K16, f16_1, f16_2, f16_3⟩ := hQ16
  have N16 := Fr.app N9 N16q
  have z17 : h0.size ≤ b8 := Nat.le_trans (Keep.refl h0 []).1 (Nat.le_of_eq g8.symm)
  have O_K16 : Old Z n0 T16.heap := O_K9.keep K16 (allS g13 all0)
  have Kp_K16 : Keep h0 T16.heap [] := Kp_K9.trans K16 (allS (Or.inr z17) all0)
  have z18 : h0.size ≤ b9_0 := Nat.le_trans Kp_E8.1 lo9_1
  have ne19 : b8 ≠ b9_0 := Nat.ne_of_lt (Nat.lt_of_lt_of_le A8.lt lo9_1)
  have f20 := (f9_2.keep K16 (ninS (Ne.symm ne19) nin0))
  have f21 := (f9_3.keep K16)
  obtain ⟨fs, hr, hrun, hended, hW, hsame⟩ := X16.leave (v := some (.ref b8)) (fun h => by rw [Bd.returns] at h; cases h)
  refine ⟨_, _, ?_, hrun, hended, _, _, rfl, ?_, ⟨_, rfl⟩, hW, hsame.mono (by decide) (by decide)⟩
  · show St p e below s₁ m 0 #[iv p1] [] _
    refine st4 _ ?_
    refine XS.ifNo X4.here hx rfl (hb hby d5_3) rfl ((if0 _ _).trans (feq hc5).1) ?_
    refine XS.iloadN X4.here hx rfl (hb hby d5_6) rfl ?_
    refine st7 _ ?_
    refine XS.ifNo X7.here hx rfl (hb hby d5_10) rfl ((if0 _ _).trans (feq (by decide : ¬ ((1 : Int32) = (0 : Int32)))).1) ?_
    refine st8 _ ?_
    refine XS.dup X8.here hx rfl (hb hby d5_16) rfl rfl ?_
    refine XS.iloadN X8.here hx rfl (hb hby d5_17) rfl ?_
    refine st9 _ ?_
    refine XS.iconst X9.here hx rfl (hb hby d5_21) ?_
    refine st16.trans ?_
    jvm_step X16.here [X16.here.top, hx, (hb hby d5_25), X16.method', Bd.returns, Value.isRef, FieldType.isReference]
    first | (intro acts; rw [hr _ acts rfl rfl rfl]) | rw [hr _ _ rfl rfl rfl]
    exact Steps.refl _
  · show r5_1Q Z p1 p2 h0 n0 _ T16.heap _
    exact ⟨b8, b9_0, k9_0, rfl, N16, Kp_K16, z17, z18, ne19, f16_2, f16_1, f16_3, f20, f21⟩
theorem pd__C_Ljava_lang_String_ : parseMethodDescriptor "(C)Ljava/lang/String;" = some ⟨[.char], some (.object "java/lang/String")⟩ := by decide +kernel
theorem d0_32 : decode method_6_code 32 = .ok (.areturn, 1) := by decide +kernel
theorem d0_33 : decode method_6_code 33 = .ok (.iconst 2, 1) := by decide +kernel
theorem d0_34 : decode method_6_code 34 = .ok (.newarray .char, 2) := by decide +kernel
theorem d0_36 : decode method_6_code 36 = .ok (.astore_n 2, 1) := by decide +kernel
theorem d0_37 : decode method_6_code 37 = .ok (.aload_n 2, 1) := by decide +kernel
theorem d0_38 : decode method_6_code 38 = .ok (.iconst 0, 1) := by decide +kernel
theorem d0_39 : decode method_6_code 39 = .ok (.iload_n 0, 1) := by decide +kernel
theorem d0_40 : decode method_6_code 40 = .ok (.invokestatic 35, 3) := by decide +kernel
theorem d0_43 : decode method_6_code 43 = .ok (.castore, 1) := by decide +kernel
theorem d0_44 : decode method_6_code 44 = .ok (.aload_n 2, 1) := by decide +kernel
theorem d0_45 : decode method_6_code 45 = .ok (.iconst 1, 1) := by decide +kernel
theorem d0_46 : decode method_6_code 46 = .ok (.iload_n 0, 1) := by decide +kernel
theorem d0_47 : decode method_6_code 47 = .ok (.invokestatic 43, 3) := by decide +kernel
theorem d9_0 : decode method_5_code 0 = .ok (.iload_n 0, 1) := by decide +kernel
theorem d9_1 : decode method_5_code 1 = .ok (.bipush 10, 2) := by decide +kernel
theorem d9_3 : decode method_5_code 3 = .ok (.iushr, 1) := by decide +kernel
theorem d9_4 : decode method_5_code 4 = .ok (.sipush 255, 3) := by decide +kernel
theorem d9_7 : decode method_5_code 7 = .ok (.iand, 1) := by decide +kernel
theorem d9_8 : decode method_5_code 8 = .ok (.i2c, 1) := by decide +kernel
theorem d9_9 : decode method_5_code 9 = .ok (.ireturn, 1) := by decide +kernel
abbrev y9 : MethodName := ⟨"com/example/agave/agave/store/StoredRequestIsSameRequestPinLaw", "second", "(I)C"⟩
def r9_1Q (Z : State) (p1 : Int32) (h0 : Heap) (n0 : Nat) (v : Option Value) (h : Heap) (L : List Loc) : Prop := v = some (.int (nar .char ((((p1.toUInt32 >>> ((10 : Int32) &&& 31).toUInt32).toInt32) &&& (255 : Int32)).toUInt32.toUInt16.toUInt32.toInt32))) ∧ Fr n0 L ∧ h = h0
set_option maxRecDepth 65536 in
set_option maxHeartbeats 40000000 in
theorem r9_1 (l : Launch) (Z : State) (a0 : Array Value) (hw : HW a0 Z) (ws : List Jvm.Cond) (p1 : Int32) (h0 : Heap) (n0 : Nat) (O0 : Old Z n0 h0) :
    MF l y9 method_5_code 1 (some .char) ws ({ frames := 0, cells := 0, slots := 0, locals := 0 } : Room) Z #[(.int p1)] h0 (r9_1Q Z p1 h0 n0) := by
  refine own_in (plainFor_of_name pn_com_example_agave_agave_store_StoredRequestIsSameRequestPinLaw) #[iv p1] (fun _ => by first | (simp [entryFrame, mkF, argsToLocals, Value.category]; done) | rfl) ?_
  intro p e s m below meth c s₁ Bd hx hby hml hown hnm hZ e0 X0
  have N0 := Fr.nil n0
  obtain ⟨fs, hr, hrun, hended, hW, hsame⟩ := X0.leave (v := some (.int (nar .char ((((p1.toUInt32 >>> ((10 : Int32) &&& 31).toUInt32).toInt32) &&& (255 : Int32)).toUInt32.toUInt16.toUInt32.toInt32)))) (fun h => by rw [Bd.returns] at h; cases h)
  refine ⟨_, _, ?_, hrun, hended, _, _, rfl, ?_, ⟨_, rfl⟩, hW, hsame.mono (by decide) (by decide)⟩
  · show St p e below s₁ m 0 #[iv p1] [] _
    refine XS.iloadN X0.here hx rfl (hb hby d9_0) rfl ?_
    refine XS.bipush X0.here hx rfl (hb hby d9_1) ?_
    refine XS.iushr X0.here hx rfl (hb hby d9_3) rfl ?_
    refine XS.sipush X0.here hx rfl (hb hby d9_4) ?_
    refine XS.iand X0.here hx rfl (hb hby d9_7) rfl ?_
    refine XS.i2c X0.here hx rfl (hb hby d9_8) rfl ?_
    exact retN X0 hx (t := .char) Bd.returns (by simp) (hb hby d9_9) hr
  · show r9_1Q Z p1 h0 n0 _ s₁.heap _
    rw [e0]
    exact ⟨rfl, N0, rfl⟩
theorem d0_50 : decode method_6_code 50 = .ok (.castore, 1) := by decide +kernel
theorem d0_51 : decode method_6_code 51 = .ok (.new 30, 3) := by decide +kernel
theorem d0_54 : decode method_6_code 54 = .ok (.dup, 1) := by decide +kernel
theorem d0_55 : decode method_6_code 55 = .ok (.aload_n 2, 1) := by decide +kernel
theorem d0_56 : decode method_6_code 56 = .ok (.invokespecial 32, 3) := by decide +kernel
theorem d3_27 : decode jdk_42_method_149_code 27 = .ok (.getstatic 38, 3) := by decide +kernel
theorem d3_30 : decode jdk_42_method_149_code 30 = .ok (.ifCond .eq 28, 3) := by decide +kernel
theorem d3_33 : decode jdk_42_method_149_code 33 = .ok (.aload_n 1, 1) := by decide +kernel
theorem d3_34 : decode jdk_42_method_149_code 34 = .ok (.iload_n 2, 1) := by decide +kernel
theorem d3_35 : decode jdk_42_method_149_code 35 = .ok (.iload_n 3, 1) := by decide +kernel
theorem d3_36 : decode jdk_42_method_149_code 36 = .ok (.invokestatic 177, 3) := by decide +kernel
theorem d10_0 : decode jdk_52_method_16_code 0 = .ok (.iload_n 2, 1) := by decide +kernel
theorem d10_1 : decode jdk_52_method_16_code 1 = .ok (.newarray .byte, 2) := by decide +kernel
theorem d10_3 : decode jdk_52_method_16_code 3 = .ok (.astore_n 3, 1) := by decide +kernel
theorem d10_4 : decode jdk_52_method_16_code 4 = .ok (.aload_n 0, 1) := by decide +kernel
theorem d10_5 : decode jdk_52_method_16_code 5 = .ok (.iload_n 1, 1) := by decide +kernel
theorem d10_6 : decode jdk_52_method_16_code 6 = .ok (.aload_n 3, 1) := by decide +kernel
theorem d10_7 : decode jdk_52_method_16_code 7 = .ok (.iconst 0, 1) := by decide +kernel
theorem d10_8 : decode jdk_52_method_16_code 8 = .ok (.iload_n 2, 1) := by decide +kernel
theorem d10_9 : decode jdk_52_method_16_code 9 = .ok (.invokestatic 115, 3) := by decide +kernel
theorem d11_0 : decode jdk_52_method_21_code 0 = .ok (.iconst 0, 1) := by decide +kernel
theorem d11_1 : decode jdk_52_method_21_code 1 = .ok (.istore 5, 2) := by decide +kernel
theorem d11_3 : decode jdk_52_method_21_code 3 = .ok (.iload 5, 2) := by decide +kernel
theorem d11_5 : decode jdk_52_method_21_code 5 = .ok (.iload 4, 2) := by decide +kernel
theorem d11_7 : decode jdk_52_method_21_code 7 = .ok (.if_icmp .ge 37, 3) := by decide +kernel
theorem d11_10 : decode jdk_52_method_21_code 10 = .ok (.aload_n 0, 1) := by decide +kernel
theorem d11_11 : decode jdk_52_method_21_code 11 = .ok (.iload_n 1, 1) := by decide +kernel
theorem d11_12 : decode jdk_52_method_21_code 12 = .ok (.caload, 1) := by decide +kernel
theorem d11_13 : decode jdk_52_method_21_code 13 = .ok (.istore 6, 2) := by decide +kernel
theorem d11_15 : decode jdk_52_method_21_code 15 = .ok (.iload 6, 2) := by decide +kernel
theorem d11_17 : decode jdk_52_method_21_code 17 = .ok (.sipush 255, 3) := by decide +kernel
theorem d11_20 : decode jdk_52_method_21_code 20 = .ok (.if_icmp .le 6, 3) := by decide +kernel
theorem d11_26 : decode jdk_52_method_21_code 26 = .ok (.aload_n 2, 1) := by decide +kernel
theorem d11_27 : decode jdk_52_method_21_code 27 = .ok (.iload_n 3, 1) := by decide +kernel
theorem d11_28 : decode jdk_52_method_21_code 28 = .ok (.iload 6, 2) := by decide +kernel
theorem d11_30 : decode jdk_52_method_21_code 30 = .ok (.i2b, 1) := by decide +kernel
theorem d11_31 : decode jdk_52_method_21_code 31 = .ok (.bastore, 1) := by decide +kernel
theorem d11_32 : decode jdk_52_method_21_code 32 = .ok (.iinc 1 1, 3) := by decide +kernel
theorem d11_35 : decode jdk_52_method_21_code 35 = .ok (.iinc 3 1, 3) := by decide +kernel
theorem d11_38 : decode jdk_52_method_21_code 38 = .ok (.iinc 5 1, 3) := by decide +kernel
theorem d11_41 : decode jdk_52_method_21_code 41 = .ok (.goto (-38), 3) := by decide +kernel
abbrev xE4 (Z : State) (h : Heap) (a : Addr) : Prop := Exa Z h a "[C"
theorem d11_44 : decode jdk_52_method_21_code 44 = .ok (.iload 4, 2) := by decide +kernel
theorem d11_46 : decode jdk_52_method_21_code 46 = .ok (.ireturn, 1) := by decide +kernel
abbrev y11 : MethodName := ⟨"java/lang/StringUTF16", "compress", "([CI[BII)I"⟩
theorem pn_java_lang_StringUTF16 : plainName "java/lang/StringUTF16" = true := by first | (simp [plainName, overriddenIn]; done) | decide +kernel
def r11_1Q (Z : State) (a1 : Addr) (a2 : Addr) (k4 : ClassId) (p5 : Int32) (p6 : Int32) (k9 : ClassId) (h0 : Heap) (n0 : Nat) (v : Option Value) (h : Heap) (L : List Loc) : Prop := v = some (.int (2 : Int32)) ∧ Fr n0 L ∧ Keep h0 h [a2] ∧ Arv Z h a2 k9 .byte (2 : Int32) [(.int (p5.toInt8.toInt32)), (.int (p6.toInt8.toInt32))] (.int (0 : Int32)) ∧ xE3 Z h a2
set_option maxRecDepth 65536 in
set_option maxHeartbeats 40000000 in
theorem r11_1 (l : Launch) (Z : State) (a0 : Array Value) (hw : HW a0 Z) (ws : List Jvm.Cond) (a1 : Addr) (a2 : Addr) (k4 : ClassId) (p5 : Int32) (p6 : Int32) (k9 : ClassId) (h0 : Heap) (n0 : Nat) (O0 : Old Z n0 h0) (H7 : Arv Z h0 a1 k4 .char (2 : Int32) [(.int p5), (.int p6)] (.int (0 : Int32))) (hc8 : ¬ ((255 : Int32) < p5)) (H10 : Arv Z h0 a2 k9 .byte (2 : Int32) [(.int (0 : Int32)), (.int (0 : Int32))] (.int (0 : Int32))) (H13 : n0 ≤ a2) (H16 : a1 ≠ a2) (hc18 : ¬ ((255 : Int32) < p6)) (H22 : xE3 Z h0 a2) :
    MF l y11 jdk_52_method_21_code 7 (some .int) ws ({ frames := 0, cells := 0, slots := 0, locals := 0 } : Room) Z #[(.ref a1), (.int (0 : Int32)), (.ref a2), (.int (0 : Int32)), (.int (2 : Int32))] h0 (r11_1Q Z a1 a2 k4 p5 p6 k9 h0 n0) := by
  refine own_in (plainFor_of_name pn_java_lang_StringUTF16) #[rv a1, iv (0 : Int32), rv a2, iv (0 : Int32), iv (2 : Int32), un, un] (fun _ => by first | (simp [entryFrame, mkF, argsToLocals, Value.category]; done) | rfl) ?_
  intro p e s m below meth c s₁ Bd hx hby hml hown hnm hZ e0 X0
  have N0 := Fr.nil n0
  obtain ⟨cl3, Ar3, q3, S3, M3, H3, G3⟩ := id H7
  have hin3 : ¬ ((0 : Int32) < 0 ∨ cl3.slots.size ≤ ((0 : Int32)).toNatClampNeg) := inb_of S3 ⟨by decide, by decide⟩
  obtain ⟨cl11, Ar11, q11, S11, M11, H11, G11⟩ := id H10
  have hin11 : ¬ ((0 : Int32) < 0 ∨ cl11.slots.size ≤ ((0 : Int32)).toNatClampNeg) := inb_of S11 ⟨by decide, by decide⟩
  obtain ⟨T11, h11, X11, e11, W11, st11⟩ := stB X0 hx hZ e0 Ar11 (j := (0 : Int32)) hin11 (g := (mkF m 31 #[rv a1, iv (0 : Int32), rv a2, iv (0 : Int32), iv (2 : Int32), iv (0 : Int32), iv p5] [(.int (p5.toInt8.toInt32)), (.int (0 : Int32)), (.ref a2)])) rfl rfl (hb hby d11_31)
  have O_W11 : Old Z n0 h11 := O0.wr W11 H13
  have Kp_W11 : Keep h0 h11 [a2] := (Keep.refl h0 [a2]).wr W11 (Or.inl (List.mem_of_getElem? (i := 0) rfl))
  have N14 := Fr.snoc X11 N0 H13
  have f12 : Arv Z h11 a2 k9 .byte (2 : Int32) [(.int (p5.toInt8.toInt32)), (.int (0 : Int32))] (.int (0 : Int32)) := by simpa only [own_narb, own_i8, List.set] using Arv.set Ar11 q11 S11 M11 H11 G11 (fits_nar_byte _) W11 0 rfl (Nat.le_of_ble_eq_true rfl)
  have f17 := (H7.other W11 H16)
  obtain ⟨cl15, Ar15, q15, S15, M15, H15, G15⟩ := id f17
  have hin15 : ¬ ((1 : Int32) < 0 ∨ cl15.slots.size ≤ ((1 : Int32)).toNatClampNeg) := inb_of S15 ⟨by decide, by decide⟩
  obtain ⟨cl19, Ar19, q19, S19, M19, H19, G19⟩ := id f12
  have hin19 : ¬ ((1 : Int32) < 0 ∨ cl19.slots.size ≤ ((1 : Int32)).toNatClampNeg) := inb_of S19 ⟨by decide, by decide⟩
  obtain ⟨T19, h19, X19, e19, W19, st19⟩ := stB X11 hx hZ e11 Ar19 (j := (1 : Int32)) hin19 (g := (mkF m 31 #[rv a1, iv (1 : Int32), rv a2, iv (1 : Int32), iv (2 : Int32), iv (1 : Int32), iv p6] [(.int (p6.toInt8.toInt32)), (.int (1 : Int32)), (.ref a2)])) rfl rfl (hb hby d11_31)
  have O_W19 : Old Z n0 h19 := O_W11.wr W19 H13
  have Kp_W19 : Keep h0 h19 [a2] := Kp_W11.wr W19 (Or.inl (List.mem_of_getElem? (i := 0) rfl))
  have N21 := Fr.snoc X19 N14 H13
  have f20 : Arv Z h19 a2 k9 .byte (2 : Int32) [(.int (p5.toInt8.toInt32)), (.int (p6.toInt8.toInt32))] (.int (0 : Int32)) := by simpa only [own_narb, own_i8, List.set] using Arv.set Ar19 q19 S19 M19 H19 G19 (fits_nar_byte _) W19 1 rfl (Nat.le_of_ble_eq_true rfl)
  have f23 := ((H22.wr W11).wr W19)
  obtain ⟨fs, hr, hrun, hended, hW, hsame⟩ := X19.leave (v := some (.int (2 : Int32))) (fun h => by rw [Bd.returns] at h; cases h)
  refine ⟨_, _, ?_, hrun, hended, _, _, rfl, ?_, ⟨_, rfl⟩, hW, hsame.mono (by decide) (by decide)⟩
  · show St p e below s₁ m 0 #[rv a1, iv (0 : Int32), rv a2, iv (0 : Int32), iv (2 : Int32), un, un] [] _
    refine XS.iconst X0.here hx rfl (hb hby d11_0) ?_
    refine XS.istore X0.here hx rfl (hb hby d11_1) rfl (l' := #[rv a1, iv (0 : Int32), rv a2, iv (0 : Int32), iv (2 : Int32), iv (0 : Int32), un]) rfl ?_
    refine XS.iload X0.here hx rfl (hb hby d11_3) rfl ?_
    refine XS.iload X0.here hx rfl (hb hby d11_5) rfl ?_
    refine XS.icmpNo X0.here hx rfl (hb hby d11_7) rfl (tlt (by decide : (0 : Int32) < (2 : Int32))).2.1 ?_
    refine XS.aloadN X0.here hx rfl (hb hby d11_10) rfl rfl ?_
    refine XS.iloadN X0.here hx rfl (hb hby d11_11) rfl ?_
    refine X0.caload hx (j := (0 : Int32)) (v := (.int p5)) (by rw [e0]; exact Ar3.1) (State.isArrayOf_alike hZ.alike Ar3.2.1) Ar3.2.2 hin3 (Has.at H3 hin3 rfl) (g := (mkF m 12 #[rv a1, iv (0 : Int32), rv a2, iv (0 : Int32), iv (2 : Int32), iv (0 : Int32), un] [(.int (0 : Int32)), (.ref a1)])) rfl rfl (hb hby d11_12) _ ?_
    refine XS.istore X0.here hx rfl (hb hby d11_13) rfl (l' := #[rv a1, iv (0 : Int32), rv a2, iv (0 : Int32), iv (2 : Int32), iv (0 : Int32), iv p5]) rfl ?_
    refine XS.iload X0.here hx rfl (hb hby d11_15) rfl ?_
    refine XS.sipush X0.here hx rfl (hb hby d11_17) ?_
    refine XS.icmpYes X0.here hx rfl (pc0 := 20) (pc' := 26) rfl (hb hby d11_20) rfl (flt hc8).2.2.2 (by decide) (by decide) ?_
    refine XS.aloadN X0.here hx rfl (hb hby d11_26) rfl rfl ?_
    refine XS.iloadN X0.here hx rfl (hb hby d11_27) rfl ?_
    refine XS.iload X0.here hx rfl (hb hby d11_28) rfl ?_
    refine XS.i2b X0.here hx rfl (hb hby d11_30) rfl ?_
    refine st11 _ ?_
    refine XS.iinc X11.here hx rfl (hb hby d11_32) rfl (l' := #[rv a1, iv (1 : Int32), rv a2, iv (0 : Int32), iv (2 : Int32), iv (0 : Int32), iv p5]) rfl ?_
    refine XS.iinc X11.here hx rfl (hb hby d11_35) rfl (l' := #[rv a1, iv (1 : Int32), rv a2, iv (1 : Int32), iv (2 : Int32), iv (0 : Int32), iv p5]) rfl ?_
    refine XS.iinc X11.here hx rfl (hb hby d11_38) rfl (l' := #[rv a1, iv (1 : Int32), rv a2, iv (1 : Int32), iv (2 : Int32), iv (1 : Int32), iv p5]) rfl ?_
    refine XS.goto X11.here hx rfl (pc0 := 41) (pc' := 3) rfl (hb hby d11_41) (by decide) (by decide) ?_
    refine XS.iload X11.here hx rfl (hb hby d11_3) rfl ?_
    refine XS.iload X11.here hx rfl (hb hby d11_5) rfl ?_
    refine XS.icmpNo X11.here hx rfl (hb hby d11_7) rfl (tlt (by decide : (1 : Int32) < (2 : Int32))).2.1 ?_
    refine XS.aloadN X11.here hx rfl (hb hby d11_10) rfl rfl ?_
    show St p e below T11 m 11 #[rv a1, iv (1 : Int32), rv a2, iv (1 : Int32), iv (2 : Int32), iv (1 : Int32), iv p5] [(.ref a1)] _
    refine XS.iloadN X11.here hx rfl (hb hby d11_11) rfl ?_
    refine X11.caload hx (j := (1 : Int32)) (v := (.int p6)) (by rw [e11]; exact Ar15.1) (State.isArrayOf_alike hZ.alike Ar15.2.1) Ar15.2.2 hin15 (Has.at H15 hin15 rfl) (g := (mkF m 12 #[rv a1, iv (1 : Int32), rv a2, iv (1 : Int32), iv (2 : Int32), iv (1 : Int32), iv p5] [(.int (1 : Int32)), (.ref a1)])) rfl rfl (hb hby d11_12) _ ?_
    refine XS.istore X11.here hx rfl (hb hby d11_13) rfl (l' := #[rv a1, iv (1 : Int32), rv a2, iv (1 : Int32), iv (2 : Int32), iv (1 : Int32), iv p6]) rfl ?_
    refine XS.iload X11.here hx rfl (hb hby d11_15) rfl ?_
    refine XS.sipush X11.here hx rfl (hb hby d11_17) ?_
    refine XS.icmpYes X11.here hx rfl (pc0 := 20) (pc' := 26) rfl (hb hby d11_20) rfl (flt hc18).2.2.2 (by decide) (by decide) ?_
    refine XS.aloadN X11.here hx rfl (hb hby d11_26) rfl rfl ?_
    refine XS.iloadN X11.here hx rfl (hb hby d11_27) rfl ?_
    refine XS.iload X11.here hx rfl (hb hby d11_28) rfl ?_
    refine XS.i2b X11.here hx rfl (hb hby d11_30) rfl ?_
    refine st19 _ ?_
    refine XS.iinc X19.here hx rfl (hb hby d11_32) rfl (l' := #[rv a1, iv (2 : Int32), rv a2, iv (1 : Int32), iv (2 : Int32), iv (1 : Int32), iv p6]) rfl ?_
    refine XS.iinc X19.here hx rfl (hb hby d11_35) rfl (l' := #[rv a1, iv (2 : Int32), rv a2, iv (2 : Int32), iv (2 : Int32), iv (1 : Int32), iv p6]) rfl ?_
    refine XS.iinc X19.here hx rfl (hb hby d11_38) rfl (l' := #[rv a1, iv (2 : Int32), rv a2, iv (2 : Int32), iv (2 : Int32), iv (2 : Int32), iv p6]) rfl ?_
    refine XS.goto X19.here hx rfl (pc0 := 41) (pc' := 3) rfl (hb hby d11_41) (by decide) (by decide) ?_
    refine XS.iload X19.here hx rfl (hb hby d11_3) rfl ?_
    refine XS.iload X19.here hx rfl (hb hby d11_5) rfl ?_
    refine XS.icmpYes X19.here hx rfl (pc0 := 7) (pc' := 44) rfl (hb hby d11_7) rfl (flt (by decide : ¬ ((2 : Int32) < (2 : Int32)))).2.1 (by decide) (by decide) ?_
    refine XS.iload X19.here hx rfl (hb hby d11_44) rfl ?_
    exact retI X19 hx Bd.returns (hb hby d11_46) hr
  · show r11_1Q Z a1 a2 k4 p5 p6 k9 h0 n0 _ T19.heap _
    rw [e19]
    exact ⟨rfl, N21, Kp_W19, f20, f23⟩
theorem pd___CI_BII_I : parseMethodDescriptor "([CI[BII)I" = some ⟨[(.array .char), .int, (.array .byte), .int, .int], some .int⟩ := by decide +kernel
theorem d10_12 : decode jdk_52_method_16_code 12 = .ok (.istore 4, 2) := by decide +kernel
theorem d10_14 : decode jdk_52_method_16_code 14 = .ok (.iload 4, 2) := by decide +kernel
theorem d10_16 : decode jdk_52_method_16_code 16 = .ok (.iload_n 2, 1) := by decide +kernel
theorem d10_17 : decode jdk_52_method_16_code 17 = .ok (.if_icmp .eq 40, 3) := by decide +kernel
theorem d10_57 : decode jdk_52_method_16_code 57 = .ok (.aload_n 3, 1) := by decide +kernel
theorem d10_58 : decode jdk_52_method_16_code 58 = .ok (.areturn, 1) := by decide +kernel
abbrev y10 : MethodName := ⟨"java/lang/StringUTF16", "compress", "([CII)[B"⟩
def r10_1Q (Z : State) (a1 : Addr) (k3 : ClassId) (p4 : Int32) (p5 : Int32) (h0 : Heap) (n0 : Nat) (v : Option Value) (h : Heap) (L : List Loc) : Prop := ∃ (b2 : Addr) (k2 : ClassId), v = some (.ref b2) ∧ Fr n0 L ∧ Keep h0 h [] ∧ h0.size ≤ b2 ∧ Arv Z h b2 k2 .byte (2 : Int32) [(.int (p4.toInt8.toInt32)), (.int (p5.toInt8.toInt32))] (.int (0 : Int32)) ∧ xE3 Z h b2
set_option maxRecDepth 65536 in
set_option maxHeartbeats 40000000 in
theorem r10_1 (l : Launch) (Z : State) (a0 : Array Value) (hw : HW a0 Z) (ws : List Jvm.Cond) (a1 : Addr) (k3 : ClassId) (p4 : Int32) (p5 : Int32) (h0 : Heap) (n0 : Nat) (O0 : Old Z n0 h0) (H6 : Arv Z h0 a1 k3 .char (2 : Int32) [(.int p4), (.int p5)] (.int (0 : Int32))) (hc8 : ¬ ((255 : Int32) < p4)) (H10 : xE4 Z h0 a1) (hc13 : ¬ ((255 : Int32) < p5)) :
    MF l y10 jdk_52_method_16_code 6 (some (.array .byte)) ws ({ frames := 1, cells := 1, slots := 2, locals := 18 } : Room) Z #[(.ref a1), (.int (0 : Int32)), (.int (2 : Int32))] h0 (r10_1Q Z a1 k3 p4 p5 h0 n0) := by
  refine own_in (plainFor_of_name pn_java_lang_StringUTF16) #[rv a1, iv (0 : Int32), iv (2 : Int32), un, un, un] (fun _ => by first | (simp [entryFrame, mkF, argsToLocals, Value.category]; done) | rfl) ?_
  intro p e s m below meth c s₁ Bd hx hby hml hown hnm hZ e0 X0
  have N0 := Fr.nil n0
  obtain ⟨T2, h2, k2, X2, e2, E2, A2, C2, st2⟩ := newPE X0 hx hZ (aty := .byte) (ow hw 25 rfl) e0 (g := (mkF m 1 #[rv a1, iv (0 : Int32), iv (2 : Int32), un, un, un] [(.int (2 : Int32))])) rfl (hb hby d10_1) rfl (by decide) (cap := 2) (by decide) (by decide) (by decide) (by decide) (ad := "[B") (by decide)
  obtain ⟨b2, g2⟩ : ∃ z, z = h0.size := ⟨_, rfl⟩
  rw [← g2] at A2 C2 st2
  have O_E2 : Old Z n0 h2 := O0.ext E2
  have Kp_E2 : Keep h0 h2 [] := (Keep.refl h0 []).ext E2
  have V2 : Arv Z h2 b2 k2 .byte (2 : Int32) [(.int (0 : Int32)), (.int (0 : Int32))] (.int (0 : Int32)) := (Arv.new A2 (by decide)).pad (pad_rep [] (.int (0 : Int32)) 2)
  have f7 := (H6.ext E2)
  have g9 : n0 ≤ b2 := Nat.le_trans (Nat.le_trans (Nat.le_of_eq O0.1.symm) O0.2.1) (Nat.le_of_eq g2.symm)
  have f11 := (H10.ext E2)
  have ne12 : a1 ≠ b2 := Nat.ne_of_lt (Nat.lt_of_lt_of_le H10.lt (Nat.le_of_eq g2.symm))
  obtain ⟨T14, Lc14, _, X14, hQ14, st14⟩ := flC X2 (Jvm.LawKit.callS X2 hx (y := y11) hown (mvT hZ (ow hw 43 rfl)) (mvT hZ (ow hw 44 rfl)) (mvT hZ (ow hw 41 rfl)) (mvT hZ (ow hw 45 rfl)) (by decide) (backOf (W := 0) (r11_1 l Z a0 hw [] a1 b2 k3 p4 p5 k2 h2 n0 O_E2 f7 hc8 V2 g9 ne12 hc13 C2) hZ (ow hw 45 rfl) (ow hw 41 rfl) (by decide) (by decide)) (g := (mkF m 9 #[rv a1, iv (0 : Int32), iv (2 : Int32), rv b2, un, un] [(.int (2 : Int32)), (.int (0 : Int32)), (.ref b2), (.int (0 : Int32)), (.ref a1)])) rfl (by rw [hml]; rfl) (argsL := [(.ref a1), (.int (0 : Int32)), (.ref b2), (.int (0 : Int32)), (.int (2 : Int32))]) (rest := []) (lenOf pd___CI_BII_I rfl) rfl wf (hb hby d10_9) (fun _ _ => ⟨rfl, e2, (by decide : 1 + 0 ≤ _), (by decide : 2 + 0 ≤ _)⟩))
  obtain ⟨rfl, N14q, K14, f14_1, f14_2⟩ := hQ14
  have N14 := Fr.app N0 N14q
  have z15 : h0.size ≤ b2 := Nat.le_trans (Keep.refl h0 []).1 (Nat.le_of_eq g2.symm)
  have O_K14 : Old Z n0 T14.heap := O_E2.keep K14 (allS g9 all0)
  have Kp_K14 : Keep h0 T14.heap [] := Kp_E2.trans K14 (allS (Or.inr z15) all0)
  obtain ⟨fs, hr, hrun, hended, hW, hsame⟩ := X14.leave (v := some (.ref b2)) (fun h => by rw [Bd.returns] at h; cases h)
  refine ⟨_, _, ?_, hrun, hended, _, _, rfl, ?_, ⟨_, rfl⟩, hW, hsame.mono (by decide) (by decide)⟩
  · show St p e below s₁ m 0 #[rv a1, iv (0 : Int32), iv (2 : Int32), un, un, un] [] _
    refine XS.iloadN X0.here hx rfl (hb hby d10_0) rfl ?_
    refine st2 _ ?_
    refine XS.astoreN X2.here hx rfl (hb hby d10_3) rfl rfl (l' := #[rv a1, iv (0 : Int32), iv (2 : Int32), rv b2, un, un]) rfl ?_
    refine XS.aloadN X2.here hx rfl (hb hby d10_4) rfl rfl ?_
    refine XS.iloadN X2.here hx rfl (hb hby d10_5) rfl ?_
    refine XS.aloadN X2.here hx rfl (hb hby d10_6) rfl rfl ?_
    refine XS.iconst X2.here hx rfl (hb hby d10_7) ?_
    refine XS.iloadN X2.here hx rfl (hb hby d10_8) rfl ?_
    refine st14 _ ?_
    refine XS.istore X14.here hx rfl (hb hby d10_12) rfl (l' := #[rv a1, iv (0 : Int32), iv (2 : Int32), rv b2, iv (2 : Int32), un]) rfl ?_
    refine XS.iload X14.here hx rfl (hb hby d10_14) rfl ?_
    refine XS.iloadN X14.here hx rfl (hb hby d10_16) rfl ?_
    refine XS.icmpYes X14.here hx rfl (pc0 := 17) (pc' := 57) rfl (hb hby d10_17) rfl (teq (rfl : (2 : Int32) = (2 : Int32))).1 (by decide) (by decide) ?_
    refine XS.aloadN X14.here hx rfl (hb hby d10_57) rfl rfl ?_
    jvm_step X14.here [X14.here.top, hx, (hb hby d10_58), X14.method', Bd.returns, Value.isRef, FieldType.isReference]
    first | (intro acts; rw [hr _ acts rfl rfl rfl]) | rw [hr _ _ rfl rfl rfl]
    exact Steps.refl _
  · show r10_1Q Z a1 k3 p4 p5 h0 n0 _ T14.heap _
    exact ⟨b2, k2, rfl, N14, Kp_K14, z15, f14_1, f14_2⟩
theorem pd___CII__B : parseMethodDescriptor "([CII)[B" = some ⟨[(.array .char), .int, .int], some (.array .byte)⟩ := by decide +kernel
theorem d3_39 : decode jdk_42_method_149_code 39 = .ok (.astore 5, 2) := by decide +kernel
theorem d3_41 : decode jdk_42_method_149_code 41 = .ok (.aload_n 0, 1) := by decide +kernel
theorem d3_42 : decode jdk_42_method_149_code 42 = .ok (.aload 5, 2) := by decide +kernel
theorem d3_44 : decode jdk_42_method_149_code 44 = .ok (.iload_n 3, 1) := by decide +kernel
theorem d3_45 : decode jdk_42_method_149_code 45 = .ok (.invokestatic 47, 3) := by decide +kernel
theorem d12_0 : decode jdk_52_method_15_code 0 = .ok (.iload_n 1, 1) := by decide +kernel
theorem d12_1 : decode jdk_52_method_15_code 1 = .ok (.aload_n 0, 1) := by decide +kernel
theorem d12_2 : decode jdk_52_method_15_code 2 = .ok (.arraylength, 1) := by decide +kernel
theorem d12_3 : decode jdk_52_method_15_code 3 = .ok (.isub, 1) := by decide +kernel
theorem d12_4 : decode jdk_52_method_15_code 4 = .ok (.bipush 31, 2) := by decide +kernel
theorem d12_6 : decode jdk_52_method_15_code 6 = .ok (.iushr, 1) := by decide +kernel
theorem d12_7 : decode jdk_52_method_15_code 7 = .ok (.i2b, 1) := by decide +kernel
theorem d12_8 : decode jdk_52_method_15_code 8 = .ok (.ireturn, 1) := by decide +kernel
abbrev y12 : MethodName := ⟨"java/lang/StringUTF16", "coderFromArrayLen", "([BI)B"⟩
def r12_1Q (Z : State) (a1 : Addr) (k3 : ClassId) (p4 : Int32) (p5 : Int32) (h0 : Heap) (n0 : Nat) (v : Option Value) (h : Heap) (L : List Loc) : Prop := v = some (.int (0 : Int32)) ∧ Fr n0 L ∧ h = h0
set_option maxRecDepth 65536 in
set_option maxHeartbeats 40000000 in
theorem r12_1 (l : Launch) (Z : State) (a0 : Array Value) (hw : HW a0 Z) (ws : List Jvm.Cond) (a1 : Addr) (k3 : ClassId) (p4 : Int32) (p5 : Int32) (h0 : Heap) (n0 : Nat) (O0 : Old Z n0 h0) (H6 : Arv Z h0 a1 k3 .byte (2 : Int32) [(.int p4), (.int p5)] (.int (0 : Int32))) :
    MF l y12 jdk_52_method_15_code 2 (some .byte) ws ({ frames := 0, cells := 0, slots := 0, locals := 0 } : Room) Z #[(.ref a1), (.int (2 : Int32))] h0 (r12_1Q Z a1 k3 p4 p5 h0 n0) := by
  refine own_in (plainFor_of_name pn_java_lang_StringUTF16) #[rv a1, iv (2 : Int32)] (fun _ => by first | (simp [entryFrame, mkF, argsToLocals, Value.category]; done) | rfl) ?_
  intro p e s m below meth c s₁ Bd hx hby hml hown hnm hZ e0 X0
  have N0 := Fr.nil n0
  obtain ⟨cl2, Ar2, q2, S2, M2, H2, G2⟩ := id H6
  obtain ⟨fs, hr, hrun, hended, hW, hsame⟩ := X0.leave (v := some (.int (0 : Int32))) (fun h => by rw [Bd.returns] at h; cases h)
  refine ⟨_, _, ?_, hrun, hended, _, _, rfl, ?_, ⟨_, rfl⟩, hW, hsame.mono (by decide) (by decide)⟩
  · show St p e below s₁ m 0 #[rv a1, iv (2 : Int32)] [] _
    refine XS.iloadN X0.here hx rfl (hb hby d12_0) rfl ?_
    refine XS.aloadN X0.here hx rfl (hb hby d12_1) rfl rfl ?_
    refine X0.arraylength hx (by rw [e0]; exact Ar2.1) (State.isArrayOf_alike hZ.alike Ar2.2.1) (g := (mkF m 2 #[rv a1, iv (2 : Int32)] [(.ref a1), (.int (2 : Int32))])) rfl rfl (hb hby d12_2) _ ?_
    rw [len_of S2 M2]
    refine XS.isub X0.here hx rfl (hb hby d12_3) rfl ?_
    refine XS.bipush X0.here hx rfl (hb hby d12_4) ?_
    refine XS.iushr X0.here hx rfl (hb hby d12_6) rfl ?_
    refine XS.i2b X0.here hx rfl (hb hby d12_7) rfl ?_
    exact retN X0 hx (t := .byte) Bd.returns (by simp) (hb hby d12_8) hr
  · show r12_1Q Z a1 k3 p4 p5 h0 n0 _ s₁.heap _
    rw [e0]
    exact ⟨rfl, N0, rfl⟩
theorem pd___BI_B : parseMethodDescriptor "([BI)B" = some ⟨[(.array .byte), .int], some .byte⟩ := by decide +kernel
theorem d3_48 : decode jdk_42_method_149_code 48 = .ok (.putfield 15, 3) := by decide +kernel
theorem d3_51 : decode jdk_42_method_149_code 51 = .ok (.aload_n 0, 1) := by decide +kernel
theorem d3_52 : decode jdk_42_method_149_code 52 = .ok (.aload 5, 2) := by decide +kernel
theorem d3_54 : decode jdk_42_method_149_code 54 = .ok (.putfield 9, 3) := by decide +kernel
theorem d3_57 : decode jdk_42_method_149_code 57 = .ok (.return_, 1) := by decide +kernel
def r3_2Q (Z : State) (a1 : Addr) (a2 : Addr) (p4 : Int32) (k8 : ClassId) (p9 : Int32) (p10 : Int32) (h0 : Heap) (n0 : Nat) (v : Option Value) (h : Heap) (L : List Loc) : Prop := ∃ (b15_0 : Addr) (k15_0 : ClassId), v = none ∧ Fr n0 L ∧ Keep h0 h [a1] ∧ h0.size ≤ b15_0 ∧ xF2 Z h a1 (.int (0 : Int32)) ∧ xE1 Z h a1 ∧ xF0 Z h a1 (.ref b15_0) ∧ Arv Z h b15_0 k15_0 .byte (2 : Int32) [(.int (p9.toInt8.toInt32)), (.int (p10.toInt8.toInt32))] (.int (0 : Int32)) ∧ xE3 Z h b15_0
set_option maxRecDepth 65536 in
set_option maxHeartbeats 40000000 in
theorem r3_2 (l : Launch) (Z : State) (a0 : Array Value) (hw : HW a0 Z) (ws : List Jvm.Cond) (a1 : Addr) (a2 : Addr) (p4 : Int32) (k8 : ClassId) (p9 : Int32) (p10 : Int32) (h0 : Heap) (n0 : Nat) (O0 : Old Z n0 h0) (H5 : Sta Z Z.heap "java/lang/String" "COMPACT_STRINGS" "Z" (.int p4)) (hc7 : ¬ (p4 = (0 : Int32))) (H11 : Arv Z h0 a2 k8 .char (2 : Int32) [(.int p9), (.int p10)] (.int (0 : Int32))) (hc12 : ¬ ((255 : Int32) < p9)) (H13 : xE4 Z h0 a2) (hc14 : ¬ ((255 : Int32) < p10)) (H17 : xF2 Z h0 a1 (.int (0 : Int32))) (H19 : xE1 Z h0 a1) (H22 : n0 ≤ a1) (H25 : xF0 Z h0 a1 .null) :
    MF l y3 jdk_42_method_149_code 6 none ws ({ frames := 2, cells := 1, slots := 2, locals := 35 } : Room) Z #[(.ref a1), (.ref a2), (.int (0 : Int32)), (.int (2 : Int32)), .null] h0 (r3_2Q Z a1 a2 p4 k8 p9 p10 h0 n0) := by
  refine own_in (plainFor_of_name pn_java_lang_String) #[rv a1, rv a2, iv (0 : Int32), iv (2 : Int32), .val .null, un] (fun _ => by first | (simp [entryFrame, mkF, argsToLocals, Value.category]; done) | rfl) ?_
  intro p e s m below meth c s₁ Bd hx hby hml hown hnm hZ e0 X0
  have N0 := Fr.nil n0
  obtain ⟨T3, X3, e3, st3⟩ := initO X0 hx hZ hown (ow hw 21 rfl) (ow hw 22 rfl) (ow hw 23 rfl) e0 (g := (mkF m 1 #[rv a1, rv a2, iv (0 : Int32), iv (2 : Int32), .val .null, un] [(.ref a1)])) rfl (by rw [hml]; rfl) rfl (hb hby d3_1) (by decide) (W := 0) wf (by decide)
  obtain ⟨T6, X6, e6, st6⟩ := getS2 X3 hx hZ hown (host := "") (Or.inl (ow hw 38 rfl)) Via.refl e3 (H5.ext O0.2) (g := (mkF m 27 #[rv a1, rv a2, iv (0 : Int32), iv (2 : Int32), .val .null, un] [])) rfl (hb hby d3_27)
  obtain ⟨T15, Lc15, _, X15, hQ15, st15⟩ := flC X6 (Jvm.LawKit.callS X6 hx (y := y10) hown (mvT hZ (ow hw 39 rfl)) (mvT hZ (ow hw 40 rfl)) (mvT hZ (ow hw 41 rfl)) (mvT hZ (ow hw 42 rfl)) (by decide) (backOf (W := 0) (r10_1 l Z a0 hw [] a2 k8 p9 p10 h0 n0 O0 H11 hc12 H13 hc14) hZ (ow hw 42 rfl) (ow hw 41 rfl) (by decide) (by decide)) (g := (mkF m 36 #[rv a1, rv a2, iv (0 : Int32), iv (2 : Int32), .val .null, un] [(.int (2 : Int32)), (.int (0 : Int32)), (.ref a2)])) rfl (by rw [hml]; rfl) (argsL := [(.ref a2), (.int (0 : Int32)), (.int (2 : Int32))]) (rest := []) (lenOf pd___CII__B rfl) rfl wf (hb hby d3_36) (fun _ _ => ⟨rfl, e6, (by decide : 0 + 1 ≤ _), (by decide : 0 + 2 ≤ _)⟩))
  obtain ⟨b15_0, k15_0, rfl, N15q, K15, lo15_1, f15_2, f15_3⟩ := hQ15
  have N15 := Fr.app N0 N15q
  have O_K15 : Old Z n0 T15.heap := O0.keep K15 all0
  have Kp_K15 : Keep h0 T15.heap [a1] := (Keep.refl h0 [a1]).trans K15 all0
  obtain ⟨T16, Lc16, _, X16, hQ16, st16⟩ := flC X15 (Jvm.LawKit.callS X15 hx (y := y12) hown (mvT hZ (ow hw 46 rfl)) (mvT hZ (ow hw 47 rfl)) (mvT hZ (ow hw 41 rfl)) (mvT hZ (ow hw 48 rfl)) (by decide) (backOf (W := 1) (r12_1 l Z a0 hw [] b15_0 k15_0 (p9.toInt8.toInt32) (p10.toInt8.toInt32) T15.heap n0 O_K15 f15_2) hZ (ow hw 48 rfl) (ow hw 41 rfl) (by decide) (by decide)) (g := (mkF m 45 #[rv a1, rv a2, iv (0 : Int32), iv (2 : Int32), .val .null, rv b15_0] [(.int (2 : Int32)), (.ref b15_0), (.ref a1)])) rfl (by rw [hml]; rfl) (argsL := [(.ref b15_0), (.int (2 : Int32))]) (rest := [(.ref a1)]) (lenOf pd___BI_B rfl) rfl wf (hb hby d3_45) (fun _ _ => ⟨rfl, rfl, (by decide : 1 + 0 ≤ _), (by decide : 2 + 0 ≤ _)⟩))
  obtain ⟨rfl, N16q, e16⟩ := hQ16
  have N16 := Fr.app N15 N16q
  have f18 := (H17.keep K15 nin0)
  have f20 := (H19.keep K15)
  obtain ⟨T21, h21, X21, e21, W21, st21⟩ := pF X16 hx hZ hown (ow hw 31 rfl) e16 f18 f20 (Or.inr ⟨(ow hw 27 rfl), rfl, hnm⟩) (ow hw 11 rfl) (ty := .byte) (by decide) rfl rfl (g := (mkF m 48 #[rv a1, rv a2, iv (0 : Int32), iv (2 : Int32), .val .null, rv b15_0] [(.int (0 : Int32)), (.ref a1)])) rfl rfl (hb hby d3_48)
  have O_W21 : Old Z n0 h21 := O_K15.wr W21 H22
  have Kp_W21 : Keep h0 h21 [a1] := Kp_K15.wr W21 (Or.inl (List.mem_of_getElem? (i := 0) rfl))
  have N23 := Fr.snoc X21 N16 H22
  have f24 := f18.same W21
  have f26 := (f20.wr W21)
  have f27 := ((H25.keep K15 nin0).other W21 (Or.inr (slot_ne (Or.inr (ow hw 26 rfl)) (Or.inr (ow hw 27 rfl)) (by decide) (t := (.array .byte)) (t' := .byte) (by decide) (by decide))))
  obtain ⟨T28, h28, X28, e28, W28, st28⟩ := pF X21 hx hZ hown (ow hw 30 rfl) e21 f27 f26 (Or.inr ⟨(ow hw 26 rfl), rfl, hnm⟩) (ow hw 11 rfl) (ty := (.array .byte)) (by decide) rfl rfl (g := (mkF m 54 #[rv a1, rv a2, iv (0 : Int32), iv (2 : Int32), .val .null, rv b15_0] [(.ref b15_0), (.ref a1)])) rfl rfl (hb hby d3_54)
  have O_W28 : Old Z n0 h28 := O_W21.wr W28 H22
  have Kp_W28 : Keep h0 h28 [a1] := Kp_W21.wr W28 (Or.inl (List.mem_of_getElem? (i := 0) rfl))
  have N29 := Fr.snoc X28 N23 H22
  have f30 := f27.same W28
  have z31 : h0.size ≤ b15_0 := Nat.le_trans (Keep.refl h0 [a1]).1 lo15_1
  have f32 := (f26.wr W28)
  have f33 := (f24.other W28 (Or.inr (slot_ne (Or.inr (ow hw 27 rfl)) (Or.inr (ow hw 26 rfl)) (by decide) (t := .byte) (t' := (.array .byte)) (by decide) (by decide))))
  have ne34 : a1 ≠ b15_0 := Nat.ne_of_lt (Nat.lt_of_lt_of_le H19.lt lo15_1)
  have f35 := ((f15_2.other W21 (Ne.symm ne34)).other W28 (Ne.symm ne34))
  have f36 := ((f15_3.wr W21).wr W28)
  obtain ⟨fs, hr, hrun, hended, hW, hsame⟩ := X28.leave (v := none) (fun _ => rfl)
  refine ⟨_, _, ?_, hrun, hended, _, _, rfl, ?_, ⟨_, rfl⟩, hW, hsame.mono (by decide) (by decide)⟩
  · show St p e below s₁ m 0 #[rv a1, rv a2, iv (0 : Int32), iv (2 : Int32), .val .null, un] [] _
    refine XS.aloadN X0.here hx rfl (hb hby d3_0) rfl rfl ?_
    refine st3 _ ?_
    refine XS.iloadN X3.here hx rfl (hb hby d3_4) rfl ?_
    refine XS.ifYes X3.here hx rfl (pc0 := 5) (pc' := 27) rfl (hb hby d3_5) rfl ((if0 _ _).trans (feq (by decide : ¬ ((2 : Int32) = (0 : Int32)))).2) (by decide) (by decide) ?_
    refine st6 _ ?_
    refine XS.ifNo X6.here hx rfl (hb hby d3_30) rfl ((if0 _ _).trans (feq hc7).1) ?_
    refine XS.aloadN X6.here hx rfl (hb hby d3_33) rfl rfl ?_
    refine XS.iloadN X6.here hx rfl (hb hby d3_34) rfl ?_
    refine XS.iloadN X6.here hx rfl (hb hby d3_35) rfl ?_
    refine st15 _ ?_
    refine XS.astore X15.here hx rfl (hb hby d3_39) rfl rfl (l' := #[rv a1, rv a2, iv (0 : Int32), iv (2 : Int32), .val .null, rv b15_0]) rfl ?_
    refine XS.aloadN X15.here hx rfl (hb hby d3_41) rfl rfl ?_
    refine XS.aload X15.here hx rfl (hb hby d3_42) rfl rfl ?_
    refine XS.iloadN X15.here hx rfl (hb hby d3_44) rfl ?_
    refine st16 _ ?_
    refine st21 _ ?_
    refine XS.aloadN X21.here hx rfl (hb hby d3_51) rfl rfl ?_
    refine XS.aload X21.here hx rfl (hb hby d3_52) rfl rfl ?_
    refine st28 _ ?_
    exact X28.returnOut hx Bd.returns (hb hby d3_57) hr
  · show r3_2Q Z a1 a2 p4 k8 p9 p10 h0 n0 _ T28.heap _
    rw [e28]
    exact ⟨b15_0, k15_0, rfl, N29, Kp_W28, z31, f33, f32, f30, f35, f36⟩
def r2_2Q (Z : State) (a1 : Addr) (a2 : Addr) (k4 : ClassId) (p5 : Int32) (p6 : Int32) (p8 : Int32) (h0 : Heap) (n0 : Nat) (v : Option Value) (h : Heap) (L : List Loc) : Prop := ∃ (b18_0 : Addr) (k18_0 : ClassId), v = none ∧ Fr n0 L ∧ Keep h0 h [a1] ∧ h0.size ≤ b18_0 ∧ xF2 Z h a1 (.int (0 : Int32)) ∧ xE1 Z h a1 ∧ xF0 Z h a1 (.ref b18_0) ∧ Arv Z h b18_0 k18_0 .byte (2 : Int32) [(.int (p5.toInt8.toInt32)), (.int (p6.toInt8.toInt32))] (.int (0 : Int32)) ∧ xE3 Z h b18_0
set_option maxRecDepth 65536 in
set_option maxHeartbeats 40000000 in
theorem r2_2 (l : Launch) (Z : State) (a0 : Array Value) (hw : HW a0 Z) (ws : List Jvm.Cond) (a1 : Addr) (a2 : Addr) (k4 : ClassId) (p5 : Int32) (p6 : Int32) (p8 : Int32) (h0 : Heap) (n0 : Nat) (O0 : Old Z n0 h0) (H7 : Arv Z h0 a2 k4 .char (2 : Int32) [(.int p5), (.int p6)] (.int (0 : Int32))) (H9 : Sta Z Z.heap "java/lang/String" "COMPACT_STRINGS" "Z" (.int p8)) (hc10 : ¬ (p8 = (0 : Int32))) (hc11 : ¬ ((255 : Int32) < p5)) (H12 : xE4 Z h0 a2) (hc13 : ¬ ((255 : Int32) < p6)) (H14 : xF2 Z h0 a1 (.int (0 : Int32))) (H15 : xE1 Z h0 a1) (H16 : n0 ≤ a1) (H17 : xF0 Z h0 a1 .null) :
    MF l y2 jdk_42_method_3_code 2 none ws ({ frames := 3, cells := 1, slots := 2, locals := 52 } : Room) Z #[(.ref a1), (.ref a2)] h0 (r2_2Q Z a1 a2 k4 p5 p6 p8 h0 n0) := by
  refine own_in (plainFor_of_name pn_java_lang_String) #[rv a1, rv a2] (fun _ => by first | (simp [entryFrame, mkF, argsToLocals, Value.category]; done) | rfl) ?_
  intro p e s m below meth c s₁ Bd hx hby hml hown hnm hZ e0 X0
  have N0 := Fr.nil n0
  obtain ⟨cl3, Ar3, q3, S3, M3, H3, G3⟩ := id H7
  obtain ⟨T18, Lc18, _, X18, hQ18, st18⟩ := fl X0 (X0.specialBack hx (y := y3) rfl hown (mvT hZ (ow hw 17 rfl)) (mvT hZ (ow hw 18 rfl)) (mvT hZ (ow hw 20 rfl)) (by decide) (backOf (W := 0) (r3_2 l Z a0 hw [] a1 a2 p8 k4 p5 p6 h0 n0 O0 H9 hc10 H7 hc11 H12 hc13 H14 H15 H16 H17) hZ (ow hw 20 rfl) (ow hw 12 rfl) (by decide) (by decide)) (g := (mkF m 6 #[rv a1, rv a2] [.null, (.int (2 : Int32)), (.int (0 : Int32)), (.ref a2), (.ref a1)])) rfl (by rw [hml]; rfl) (Steps.refl _) (a := a1) (argsL := [(.ref a2), (.int (0 : Int32)), (.int (2 : Int32)), .null]) (rest := []) (lenOf pd___CIILjava_lang_Void__V rfl) rfl wf (hb hby d2_6) (fun _ _ => ⟨rfl, e0, (by decide : 0 + 1 ≤ _), (by decide : 0 + 2 ≤ _)⟩))
  obtain ⟨b18_0, k18_0, rfl, N18q, K18, lo18_1, f18_2, f18_3, f18_4, f18_5, f18_6⟩ := hQ18
  have N18 := Fr.app N0 N18q
  have O_K18 : Old Z n0 T18.heap := O0.keep K18 (allS H16 all0)
  have Kp_K18 : Keep h0 T18.heap [a1] := (Keep.refl h0 [a1]).trans K18 (allS (Or.inl (List.mem_of_getElem? (i := 0) rfl)) all0)
  have z19 : h0.size ≤ b18_0 := Nat.le_trans (Keep.refl h0 [a1]).1 lo18_1
  obtain ⟨fs, hr, hrun, hended, hW, hsame⟩ := X18.leave (v := none) (fun _ => rfl)
  refine ⟨_, _, ?_, hrun, hended, _, _, rfl, ?_, ⟨_, rfl⟩, hW, hsame.mono (by decide) (by decide)⟩
  · show St p e below s₁ m 0 #[rv a1, rv a2] [] _
    refine XS.aloadN X0.here hx rfl (hb hby d2_0) rfl rfl ?_
    refine XS.aloadN X0.here hx rfl (hb hby d2_1) rfl rfl ?_
    refine XS.iconst X0.here hx rfl (hb hby d2_2) ?_
    refine XS.aloadN X0.here hx rfl (hb hby d2_3) rfl rfl ?_
    refine X0.arraylength hx (by rw [e0]; exact Ar3.1) (State.isArrayOf_alike hZ.alike Ar3.2.1) (g := (mkF m 4 #[rv a1, rv a2] [(.ref a2), (.int (0 : Int32)), (.ref a2), (.ref a1)])) rfl rfl (hb hby d2_4) _ ?_
    rw [len_of S3 M3]
    refine XS.aconstNull X0.here hx rfl (hb hby d2_5) ?_
    refine st18.trans ?_
    exact X18.returnOut hx Bd.returns (hb hby d2_9) hr
  · show r2_2Q Z a1 a2 k4 p5 p6 p8 h0 n0 _ T18.heap _
    exact ⟨b18_0, k18_0, rfl, N18, Kp_K18, z19, f18_2, f18_3, f18_4, f18_5, f18_6⟩
theorem d0_59 : decode method_6_code 59 = .ok (.areturn, 1) := by decide +kernel
abbrev y0 : MethodName := ⟨"com/example/agave/agave/store/StoredRequestIsSameRequestPinLaw", "text", "(I)Ljava/lang/String;"⟩
def r0_1Q (Z : State) (p1 : Int32) (h0 : Heap) (n0 : Nat) (v : Option Value) (h : Heap) (L : List Loc) : Prop := own_textQ Z p1 h0 n0 v h L
set_option maxRecDepth 65536 in
set_option maxHeartbeats 40000000 in
theorem r0_1 (l : Launch) (Z : State) (a0 : Array Value) (hw : HW a0 Z) (ws : List Jvm.Cond) (p1 : Int32) (h0 : Heap) (n0 : Nat) (O0 : Old Z n0 h0) (hc3 : ((p1 &&& (3 : Int32)) % (3 : Int32)) = (0 : Int32)) :
    MFH l y0 method_6_code 3 (some (.object "java/lang/String")) ws ({ frames := 4, cells := 6, slots := 12, locals := 66 } : Room) Z #[(.int p1)] h0 (r0_1Q Z p1 h0 n0) := by
  refine own_inH (plainFor_of_name pn_com_example_agave_agave_store_StoredRequestIsSameRequestPinLaw) #[iv p1, un, un] (fun _ => by first | (simp [entryFrame, mkF, argsToLocals, Value.category]; done) | rfl) ?_
  intro p e s m below meth c s₁ Bd hx hby hml hown hnm hZ hh C0 e0 X0
  have N0 := Fr.nil n0
  obtain ⟨T2, Lc2, _, X2, hQ2, st2⟩ := flC X0 (Jvm.LawKit.callS X0 hx (y := y1) hown (mvT hZ (ow hw 7 rfl)) (mvT hZ (ow hw 8 rfl)) (mvT hZ (ow hw 5 rfl)) (mvT hZ (ow hw 9 rfl)) (by decide) (backOf (W := 0) (r1_1 l Z a0 hw [] p1 h0 n0 O0) hZ (ow hw 9 rfl) (ow hw 5 rfl) (by decide) (by decide)) (g := (mkF m 1 #[iv p1, un, un] [(.int p1)])) rfl (by rw [hml]; rfl) (argsL := [(.int p1)]) (rest := []) (lenOf pd__I_I rfl) rfl wf (hb hby d0_1) (fun _ _ => ⟨rfl, e0, (by decide : 0 + 0 ≤ _), (by decide : 0 + 0 ≤ _)⟩))
  obtain ⟨rfl, N2q, e2⟩ := hQ2
  have N2 := Fr.app N0 N2q
  obtain ⟨T4, h4, X4, e4, E4, A4, D4, -, st4⟩ := newO X2 hx hZ hown (ow hw 10 rfl) (ow hw 11 rfl) (ow hw 12 rfl) e2 (g := (mkF m 9 #[iv p1, iv ((p1 &&& (3 : Int32)) % (3 : Int32)), un] [])) rfl (hb hby d0_9) (by decide) (by decide)
  obtain ⟨b4, g4⟩ : ∃ z, z = h0.size := ⟨_, rfl⟩
  rw [← g4] at A4 D4 st4
  have O_E4 : Old Z n0 h4 := O0.ext E4
  have Kp_E4 : Keep h0 h4 [] := (Keep.refl h0 []).ext E4
  have c_E4 := CHr.ext E4 C0.1
  have C_E4 := C0.trans c_E4
  obtain ⟨T5, h5, k5, X5, e5, E5, A5, C5, st5⟩ := newPE X4 hx hZ (aty := .char) (ow hw 13 rfl) e4 (g := (mkF m 14 #[iv p1, iv ((p1 &&& (3 : Int32)) % (3 : Int32)), un] [(.int (0 : Int32)), (.ref b4), (.ref b4)])) rfl (hb hby d0_14) rfl (by decide) (cap := 0) (by decide) (by decide) (by decide) (by decide) (ad := "[C") (by decide)
  obtain ⟨b5, g5⟩ : ∃ z, z = h4.size := ⟨_, rfl⟩
  rw [← g5] at A5 C5 st5
  have O_E5 : Old Z n0 h5 := O_E4.ext E5
  have Kp_E5 : Keep h0 h5 [] := Kp_E4.ext E5
  have c_E5 := CHr.ext E5 C_E4.1
  have C_E5 := C_E4.trans c_E5
  have V5 : Arv Z h5 b5 k5 .char (0 : Int32) [] (.int (0 : Int32)) := Arv.new A5 (by decide)
  have f6 : xF0 Z h4 b4 .null := D4 (Or.inr (ow hw 26 rfl)) (ty := (.array .byte)) (by decide)
  have f7 := (f6.ext E5)
  have f8 := (A4.ext E5)
  have g9 : n0 ≤ b4 := Nat.le_trans (Nat.le_trans (Nat.le_of_eq O0.1.symm) O0.2.1) (Nat.le_of_eq g4.symm)
  have f10 : xF2 Z h4 b4 (.int (0 : Int32)) := D4 (Or.inr (ow hw 27 rfl)) (ty := .byte) (by decide)
  have f11 := (f10.ext E5)
  obtain ⟨T12, Lc12, _, X12, hSq12, hg12, Cq12, hQ12, st12⟩ := flH X5 (X5.specialBackS hx (y := y2) rfl hown (mvT hZ (ow hw 14 rfl)) (mvT hZ (ow hw 15 rfl)) (mvT hZ (ow hw 16 rfl)) (by decide) (backOfSH (s := s) (vm0 := s.vm) (W := 1) (r2_1 l Z a0 hw [] b4 b5 k5 h5 n0 O_E5 V5 f7 f8 g9 f11) hZ (ow hw 16 rfl) (ow hw 12 rfl) (by decide) (by decide) (own_EW hw) C_E5.1) (g := (mkF m 16 #[iv p1, iv ((p1 &&& (3 : Int32)) % (3 : Int32)), un] [(.ref b5), (.ref b4), (.ref b4)])) rfl (by rw [hml]; rfl) (Steps.refl _) (a := b4) (argsL := [(.ref b5)]) (rest := [(.ref b4)]) (lenOf pd___C_V rfl) rfl wf (hb hby d0_16) (fun _ _ => ⟨rfl, e5, (by decide : 2 + 4 ≤ _), (by decide : 4 + 8 ≤ _)⟩))
  obtain ⟨Y12, hS12, hZ12, hown12⟩ := rebS (s := s) (vm0 := s.vm) (State.WarmedH.since (State.WarmedH.refl s) 0) (by rw [e5]; exact (Nat.zero_le _)) X12 hSq12 hg12 hZ hown
  obtain ⟨b12_0, k12_0, rfl, N12q, K12, f12_1, f12_2, f12_3, f12_4⟩ := hQ12
  have N12 := Fr.app N2 N12q
  have z13 : h0.size ≤ b4 := Nat.le_trans (Keep.refl h0 []).1 (Nat.le_of_eq g4.symm)
  have O_K12 : Old Z n0 T12.heap := O_E5.keep K12 (allS g9 all0)
  have Kp_K12 : Keep h0 T12.heap [] := Kp_E5.trans K12 (allS (Or.inr z13) all0)
  have c_K12 := Cq12
  have C_K12 := C_E5.trans c_K12
  have ne14 := Exa.neArv f12_2 f12_4 (ow hw 11 rfl)
  refine finH (Q := r0_1Q Z p1 h0 n0) (rm := ({ frames := 4, cells := 6, slots := 12, locals := 66 } : Room)) (vm := T12.vm) Bd Y12 hZ12 (own_EW hw) C_K12 hh rfl hS12 (Nat.le_refl _) (some (.ref b4)) nofun ⟨b4, b12_0, k12_0, rfl, N12, Kp_K12, z13, f12_2, f12_3, f12_1, by rw [own_tl0 hc3]; exact f12_4⟩ (by decide) (by decide) fun fs hr => ?_
  show St p e below s₁ m 0 #[iv p1, un, un] [] _
  refine XS.iloadN X0.here hx rfl (hb hby d0_0) rfl ?_
  refine st2 _ ?_
  refine XS.istoreN X2.here hx rfl (hb hby d0_4) rfl (l' := #[iv p1, iv ((p1 &&& (3 : Int32)) % (3 : Int32)), un]) rfl ?_
  refine XS.iloadN X2.here hx rfl (hb hby d0_5) rfl ?_
  refine XS.ifNo X2.here hx rfl (hb hby d0_6) rfl ((if0 _ _).trans (teq hc3).2) ?_
  refine st4 _ ?_
  refine XS.dup X4.here hx rfl (hb hby d0_12) rfl rfl ?_
  refine XS.iconst X4.here hx rfl (hb hby d0_13) ?_
  refine st5 _ ?_
  refine st12.trans ?_
  jvm_step Y12.here [Y12.here.top, hx, (hb hby d0_19), Y12.method', Bd.returns, Value.isRef, FieldType.isReference]
  first | (intro acts; rw [hr _ acts rfl rfl rfl]) | rw [hr _ _ rfl rfl rfl]
  exact Steps.refl _
def r0_2Q (Z : State) (p1 : Int32) (p6 : Int32) (h0 : Heap) (n0 : Nat) (v : Option Value) (h : Heap) (L : List Loc) : Prop := own_textQ Z p1 h0 n0 v h L
set_option maxRecDepth 65536 in
set_option maxHeartbeats 40000000 in
theorem r0_2 (l : Launch) (Z : State) (a0 : Array Value) (hw : HW a0 Z) (ws : List Jvm.Cond) (p1 : Int32) (p6 : Int32) (h0 : Heap) (n0 : Nat) (O0 : Old Z n0 h0) (hc3 : ¬ (((p1 &&& (3 : Int32)) % (3 : Int32)) = (0 : Int32))) (hc4 : ((p1 &&& (3 : Int32)) % (3 : Int32)) = (1 : Int32)) (H7 : Sta Z Z.heap "java/lang/String" "COMPACT_STRINGS" "Z" (.int p6)) (hc8 : ¬ (p6 = (0 : Int32))) (hc9 : ¬ ((255 : Int32) < (nar .char ((((p1.toUInt32 >>> ((2 : Int32) &&& 31).toUInt32).toInt32) &&& (255 : Int32)).toUInt32.toUInt16.toUInt32.toInt32)))) :
    MFH l y0 method_6_code 3 (some (.object "java/lang/String")) ws ({ frames := 4, cells := 6, slots := 12, locals := 66 } : Room) Z #[(.int p1)] h0 (r0_2Q Z p1 p6 h0 n0) := by
  refine own_inH (plainFor_of_name pn_com_example_agave_agave_store_StoredRequestIsSameRequestPinLaw) #[iv p1, un, un] (fun _ => by first | (simp [entryFrame, mkF, argsToLocals, Value.category]; done) | rfl) ?_
  intro p e s m below meth c s₁ Bd hx hby hml hown hnm hZ hh C0 e0 X0
  have N0 := Fr.nil n0
  obtain ⟨T2, Lc2, _, X2, hQ2, st2⟩ := flC X0 (Jvm.LawKit.callS X0 hx (y := y1) hown (mvT hZ (ow hw 7 rfl)) (mvT hZ (ow hw 8 rfl)) (mvT hZ (ow hw 5 rfl)) (mvT hZ (ow hw 9 rfl)) (by decide) (backOf (W := 0) (r1_1 l Z a0 hw [] p1 h0 n0 O0) hZ (ow hw 9 rfl) (ow hw 5 rfl) (by decide) (by decide)) (g := (mkF m 1 #[iv p1, un, un] [(.int p1)])) rfl (by rw [hml]; rfl) (argsL := [(.int p1)]) (rest := []) (lenOf pd__I_I rfl) rfl wf (hb hby d0_1) (fun _ _ => ⟨rfl, e0, (by decide : 0 + 0 ≤ _), (by decide : 0 + 0 ≤ _)⟩))
  obtain ⟨rfl, N2q, e2⟩ := hQ2
  have N2 := Fr.app N0 N2q
  obtain ⟨T5, Lc5, _, X5, hQ5, st5⟩ := flC X2 (Jvm.LawKit.callS X2 hx (y := y4) hown (mvT hZ (ow hw 32 rfl)) (mvT hZ (ow hw 33 rfl)) (mvT hZ (ow hw 5 rfl)) (mvT hZ (ow hw 34 rfl)) (by decide) (backOf (W := 0) (r4_1 l Z a0 hw [] p1 h0 n0 O0) hZ (ow hw 34 rfl) (ow hw 5 rfl) (by decide) (by decide)) (g := (mkF m 26 #[iv p1, iv ((p1 &&& (3 : Int32)) % (3 : Int32)), un] [(.int p1)])) rfl (by rw [hml]; rfl) (argsL := [(.int p1)]) (rest := []) (lenOf pd__I_C rfl) rfl wf (hb hby d0_26) (fun _ _ => ⟨rfl, e2, (by decide : 0 + 0 ≤ _), (by decide : 0 + 0 ≤ _)⟩))
  obtain ⟨rfl, N5q, e5⟩ := hQ5
  have N5 := Fr.app N2 N5q
  obtain ⟨T10, Lc10, _, X10, hQ10, st10⟩ := flC X5 (Jvm.LawKit.callS X5 hx (y := y5) hown (mvT hZ (ow hw 68 rfl)) (mvT hZ (ow hw 69 rfl)) (mvT hZ (ow hw 12 rfl)) (mvT hZ (ow hw 70 rfl)) (by decide) (backOf (W := 0) (r5_1 l Z a0 hw [] (nar .char ((((p1.toUInt32 >>> ((2 : Int32) &&& 31).toUInt32).toInt32) &&& (255 : Int32)).toUInt32.toUInt16.toUInt32.toInt32)) p6 h0 n0 O0 H7 hc8 hc9) hZ (ow hw 70 rfl) (ow hw 12 rfl) (by decide) (by decide)) (g := (mkF m 29 #[iv p1, iv ((p1 &&& (3 : Int32)) % (3 : Int32)), un] [(.int (nar .char ((((p1.toUInt32 >>> ((2 : Int32) &&& 31).toUInt32).toInt32) &&& (255 : Int32)).toUInt32.toUInt16.toUInt32.toInt32)))])) rfl (by rw [hml]; rfl) (argsL := [(.int (nar .char ((((p1.toUInt32 >>> ((2 : Int32) &&& 31).toUInt32).toInt32) &&& (255 : Int32)).toUInt32.toUInt16.toUInt32.toInt32)))]) (rest := []) (lenOf pd__C_Ljava_lang_String_ rfl) rfl wf (hb hby d0_29) (fun _ _ => ⟨rfl, e5, (by decide : 0 + 2 ≤ _), (by decide : 0 + 5 ≤ _)⟩))
  obtain ⟨b10_0, b10_1, k10_0, rfl, N10q, K10, lo10_1, lo10_2, nq10_3, f10_4, f10_5, f10_6, f10_7, f10_8⟩ := hQ10
  have N10 := Fr.app N5 N10q
  have O_K10 : Old Z n0 T10.heap := O0.keep K10 all0
  have Kp_K10 : Keep h0 T10.heap [] := (Keep.refl h0 []).trans K10 all0
  have c_K10 := CHr.keep K10 all0 C0.1
  have C_K10 := C0.trans c_K10
  have z11 : h0.size ≤ b10_0 := Nat.le_trans (Keep.refl h0 []).1 lo10_1
  have z12 : h0.size ≤ b10_1 := Nat.le_trans (Keep.refl h0 []).1 lo10_2
  refine finH (Q := r0_2Q Z p1 p6 h0 n0) (rm := ({ frames := 4, cells := 6, slots := 12, locals := 66 } : Room)) (vm := s.vm) Bd X10 hZ (own_EW hw) C_K10 hh rfl (State.WarmedH.since (State.WarmedH.refl s) 0) (Nat.zero_le _) (some (.ref b10_0)) nofun ⟨b10_0, b10_1, k10_0, rfl, N10, Kp_K10, z11, f10_4, f10_6, f10_5, by rw [own_tl1 hc3 hc4]; exact f10_7⟩ (by decide) (by decide) fun fs hr => ?_
  show St p e below s₁ m 0 #[iv p1, un, un] [] _
  refine XS.iloadN X0.here hx rfl (hb hby d0_0) rfl ?_
  refine st2 _ ?_
  refine XS.istoreN X2.here hx rfl (hb hby d0_4) rfl (l' := #[iv p1, iv ((p1 &&& (3 : Int32)) % (3 : Int32)), un]) rfl ?_
  refine XS.iloadN X2.here hx rfl (hb hby d0_5) rfl ?_
  refine XS.ifYes X2.here hx rfl (pc0 := 6) (pc' := 20) rfl (hb hby d0_6) rfl ((if0 _ _).trans (feq hc3).2) (by decide) (by decide) ?_
  refine XS.iloadN X2.here hx rfl (hb hby d0_20) rfl ?_
  refine XS.iconst X2.here hx rfl (hb hby d0_21) ?_
  refine XS.icmpNo X2.here hx rfl (hb hby d0_22) rfl (teq hc4).2 ?_
  refine XS.iloadN X2.here hx rfl (hb hby d0_25) rfl ?_
  refine st5 _ ?_
  refine st10 _ ?_
  jvm_step X10.here [X10.here.top, hx, (hb hby d0_32), X10.method', Bd.returns, Value.isRef, FieldType.isReference]
  first | (intro acts; rw [hr _ acts rfl rfl rfl]) | rw [hr _ _ rfl rfl rfl]
  exact Steps.refl _
def r0_3Q (Z : State) (p1 : Int32) (p19 : Int32) (h0 : Heap) (n0 : Nat) (v : Option Value) (h : Heap) (L : List Loc) : Prop := own_textQ Z p1 h0 n0 v h L
set_option maxRecDepth 65536 in
set_option maxHeartbeats 40000000 in
theorem r0_3 (l : Launch) (Z : State) (a0 : Array Value) (hw : HW a0 Z) (ws : List Jvm.Cond) (p1 : Int32) (p19 : Int32) (h0 : Heap) (n0 : Nat) (O0 : Old Z n0 h0) (hc3 : ¬ (((p1 &&& (3 : Int32)) % (3 : Int32)) = (0 : Int32))) (hc4 : ¬ (((p1 &&& (3 : Int32)) % (3 : Int32)) = (1 : Int32))) (H20 : Sta Z Z.heap "java/lang/String" "COMPACT_STRINGS" "Z" (.int p19)) (hc21 : ¬ (p19 = (0 : Int32))) (hc22 : ¬ ((255 : Int32) < (nar .char (nar .char ((((p1.toUInt32 >>> ((2 : Int32) &&& 31).toUInt32).toInt32) &&& (255 : Int32)).toUInt32.toUInt16.toUInt32.toInt32))))) (hc24 : ¬ ((255 : Int32) < (nar .char (nar .char ((((p1.toUInt32 >>> ((10 : Int32) &&& 31).toUInt32).toInt32) &&& (255 : Int32)).toUInt32.toUInt16.toUInt32.toInt32))))) :
    MFH l y0 method_6_code 3 (some (.object "java/lang/String")) ws ({ frames := 4, cells := 6, slots := 12, locals := 66 } : Room) Z #[(.int p1)] h0 (r0_3Q Z p1 p19 h0 n0) := by
  refine own_inH (plainFor_of_name pn_com_example_agave_agave_store_StoredRequestIsSameRequestPinLaw) #[iv p1, un, un] (fun _ => by first | (simp [entryFrame, mkF, argsToLocals, Value.category]; done) | rfl) ?_
  intro p e s m below meth c s₁ Bd hx hby hml hown hnm hZ hh C0 e0 X0
  have N0 := Fr.nil n0
  obtain ⟨T2, Lc2, _, X2, hQ2, st2⟩ := flC X0 (Jvm.LawKit.callS X0 hx (y := y1) hown (mvT hZ (ow hw 7 rfl)) (mvT hZ (ow hw 8 rfl)) (mvT hZ (ow hw 5 rfl)) (mvT hZ (ow hw 9 rfl)) (by decide) (backOf (W := 0) (r1_1 l Z a0 hw [] p1 h0 n0 O0) hZ (ow hw 9 rfl) (ow hw 5 rfl) (by decide) (by decide)) (g := (mkF m 1 #[iv p1, un, un] [(.int p1)])) rfl (by rw [hml]; rfl) (argsL := [(.int p1)]) (rest := []) (lenOf pd__I_I rfl) rfl wf (hb hby d0_1) (fun _ _ => ⟨rfl, e0, (by decide : 0 + 0 ≤ _), (by decide : 0 + 0 ≤ _)⟩))
  obtain ⟨rfl, N2q, e2⟩ := hQ2
  have N2 := Fr.app N0 N2q
  obtain ⟨T5, h5, k5, X5, e5, E5, A5, C5, st5⟩ := newPE X2 hx hZ (aty := .char) (ow hw 13 rfl) e2 (g := (mkF m 34 #[iv p1, iv ((p1 &&& (3 : Int32)) % (3 : Int32)), un] [(.int (2 : Int32))])) rfl (hb hby d0_34) rfl (by decide) (cap := 2) (by decide) (by decide) (by decide) (by decide) (ad := "[C") (by decide)
  obtain ⟨b5, g5⟩ : ∃ z, z = h0.size := ⟨_, rfl⟩
  rw [← g5] at A5 C5 st5
  have O_E5 : Old Z n0 h5 := O0.ext E5
  have Kp_E5 : Keep h0 h5 [] := (Keep.refl h0 []).ext E5
  have c_E5 := CHr.ext E5 C0.1
  have C_E5 := C0.trans c_E5
  have V5 : Arv Z h5 b5 k5 .char (2 : Int32) [(.int (0 : Int32)), (.int (0 : Int32))] (.int (0 : Int32)) := (Arv.new A5 (by decide)).pad (pad_rep [] (.int (0 : Int32)) 2)
  obtain ⟨T6, Lc6, _, X6, hQ6, st6⟩ := flC X5 (Jvm.LawKit.callS X5 hx (y := y4) hown (mvT hZ (ow hw 32 rfl)) (mvT hZ (ow hw 33 rfl)) (mvT hZ (ow hw 5 rfl)) (mvT hZ (ow hw 34 rfl)) (by decide) (backOf (W := 2) (r4_1 l Z a0 hw [] p1 h5 n0 O_E5) hZ (ow hw 34 rfl) (ow hw 5 rfl) (by decide) (by decide)) (g := (mkF m 40 #[iv p1, iv ((p1 &&& (3 : Int32)) % (3 : Int32)), rv b5] [(.int p1), (.int (0 : Int32)), (.ref b5)])) rfl (by rw [hml]; rfl) (argsL := [(.int p1)]) (rest := [(.int (0 : Int32)), (.ref b5)]) (lenOf pd__I_C rfl) rfl wf (hb hby d0_40) (fun _ _ => ⟨rfl, e5, (by decide : 1 + 0 ≤ _), (by decide : 2 + 0 ≤ _)⟩))
  obtain ⟨rfl, N6q, e6⟩ := hQ6
  have N6 := Fr.app N2 N6q
  obtain ⟨cl7, Ar7, q7, S7, M7, H7, G7⟩ := id V5
  have hin7 : ¬ ((0 : Int32) < 0 ∨ cl7.slots.size ≤ ((0 : Int32)).toNatClampNeg) := inb_of S7 ⟨by decide, by decide⟩
  obtain ⟨T7, h7, X7, e7, W7, st7⟩ := stC X6 hx hZ e6 Ar7 (j := (0 : Int32)) hin7 (g := (mkF m 43 #[iv p1, iv ((p1 &&& (3 : Int32)) % (3 : Int32)), rv b5] [(.int (nar .char ((((p1.toUInt32 >>> ((2 : Int32) &&& 31).toUInt32).toInt32) &&& (255 : Int32)).toUInt32.toUInt16.toUInt32.toInt32))), (.int (0 : Int32)), (.ref b5)])) rfl rfl (hb hby d0_43)
  have g9 : n0 ≤ b5 := Nat.le_trans (Nat.le_trans (Nat.le_of_eq O0.1.symm) O0.2.1) (Nat.le_of_eq g5.symm)
  have z10 : h0.size ≤ b5 := Nat.le_trans (Keep.refl h0 []).1 (Nat.le_of_eq g5.symm)
  have O_W7 : Old Z n0 h7 := O_E5.wr W7 g9
  have Kp_W7 : Keep h0 h7 [] := Kp_E5.wr W7 (Or.inr z10)
  have c_W7 := CHr.wr W7 (Safe.ext E5 C0.1 (Safe.new (Nat.le_of_eq g5.symm))) C_E5.1
  have C_W7 := C_E5.trans c_W7
  have N11 := Fr.snoc X7 N6 g9
  have f8 : Arv Z h7 b5 k5 .char (2 : Int32) [(.int (nar .char (nar .char ((((p1.toUInt32 >>> ((2 : Int32) &&& 31).toUInt32).toInt32) &&& (255 : Int32)).toUInt32.toUInt16.toUInt32.toInt32)))), (.int (0 : Int32))] (.int (0 : Int32)) := Arv.set Ar7 q7 S7 M7 H7 G7 (fits_nar_char _) W7 0 rfl (Nat.le_of_ble_eq_true rfl)
  obtain ⟨T12, Lc12, _, X12, hQ12, st12⟩ := flC X7 (Jvm.LawKit.callS X7 hx (y := y9) hown (mvT hZ (ow hw 35 rfl)) (mvT hZ (ow hw 36 rfl)) (mvT hZ (ow hw 5 rfl)) (mvT hZ (ow hw 37 rfl)) (by decide) (backOf (W := 2) (r9_1 l Z a0 hw [] p1 h7 n0 O_W7) hZ (ow hw 37 rfl) (ow hw 5 rfl) (by decide) (by decide)) (g := (mkF m 47 #[iv p1, iv ((p1 &&& (3 : Int32)) % (3 : Int32)), rv b5] [(.int p1), (.int (1 : Int32)), (.ref b5)])) rfl (by rw [hml]; rfl) (argsL := [(.int p1)]) (rest := [(.int (1 : Int32)), (.ref b5)]) (lenOf pd__I_C rfl) rfl wf (hb hby d0_47) (fun _ _ => ⟨rfl, e7, (by decide : 1 + 0 ≤ _), (by decide : 2 + 0 ≤ _)⟩))
  obtain ⟨rfl, N12q, e12⟩ := hQ12
  have N12 := Fr.app N11 N12q
  obtain ⟨cl13, Ar13, q13, S13, M13, H13, G13⟩ := id f8
  have hin13 : ¬ ((1 : Int32) < 0 ∨ cl13.slots.size ≤ ((1 : Int32)).toNatClampNeg) := inb_of S13 ⟨by decide, by decide⟩
  obtain ⟨T13, h13, X13, e13, W13, st13⟩ := stC X12 hx hZ e12 Ar13 (j := (1 : Int32)) hin13 (g := (mkF m 50 #[iv p1, iv ((p1 &&& (3 : Int32)) % (3 : Int32)), rv b5] [(.int (nar .char ((((p1.toUInt32 >>> ((10 : Int32) &&& 31).toUInt32).toInt32) &&& (255 : Int32)).toUInt32.toUInt16.toUInt32.toInt32))), (.int (1 : Int32)), (.ref b5)])) rfl rfl (hb hby d0_50)
  have sf15 := (c_W7.safe C5.lt (Safe.ext E5 C0.1 (Safe.new (Nat.le_of_eq g5.symm))))
  have O_W13 : Old Z n0 h13 := O_W7.wr W13 g9
  have Kp_W13 : Keep h0 h13 [] := Kp_W7.wr W13 (Or.inr z10)
  have c_W13 := CHr.wr W13 sf15 C_W7.1
  have C_W13 := C_W7.trans c_W13
  have N16 := Fr.snoc X13 N12 g9
  have f14 : Arv Z h13 b5 k5 .char (2 : Int32) [(.int (nar .char (nar .char ((((p1.toUInt32 >>> ((2 : Int32) &&& 31).toUInt32).toInt32) &&& (255 : Int32)).toUInt32.toUInt16.toUInt32.toInt32)))), (.int (nar .char (nar .char ((((p1.toUInt32 >>> ((10 : Int32) &&& 31).toUInt32).toInt32) &&& (255 : Int32)).toUInt32.toUInt16.toUInt32.toInt32))))] (.int (0 : Int32)) := Arv.set Ar13 q13 S13 M13 H13 G13 (fits_nar_char _) W13 1 rfl (Nat.le_of_ble_eq_true rfl)
  obtain ⟨T17, h17, X17, e17, E17, A17, D17, -, st17⟩ := newO X13 hx hZ hown (ow hw 10 rfl) (ow hw 11 rfl) (ow hw 12 rfl) e13 (g := (mkF m 51 #[iv p1, iv ((p1 &&& (3 : Int32)) % (3 : Int32)), rv b5] [])) rfl (hb hby d0_51) (by decide) (by decide)
  obtain ⟨b17, g17⟩ : ∃ z, z = h13.size := ⟨_, rfl⟩
  rw [← g17] at A17 D17 st17
  have O_E17 : Old Z n0 h17 := O_W13.ext E17
  have Kp_E17 : Keep h0 h17 [] := Kp_W13.ext E17
  have c_E17 := CHr.ext E17 C_W13.1
  have C_E17 := C_W13.trans c_E17
  have f18 := (f14.ext E17)
  have f23 := (((C5.wr W7).wr W13).ext E17)
  have f25 : xF2 Z h17 b17 (.int (0 : Int32)) := D17 (Or.inr (ow hw 27 rfl)) (ty := .byte) (by decide)
  have g26 : n0 ≤ b17 := Nat.le_trans (Nat.le_trans (Nat.le_of_eq O_W13.1.symm) O_W13.2.1) (Nat.le_of_eq g17.symm)
  have f27 : xF0 Z h17 b17 .null := D17 (Or.inr (ow hw 26 rfl)) (ty := (.array .byte)) (by decide)
  obtain ⟨T28, Lc28, _, X28, hQ28, st28⟩ := fl X17 (X17.specialBack hx (y := y2) rfl hown (mvT hZ (ow hw 14 rfl)) (mvT hZ (ow hw 15 rfl)) (mvT hZ (ow hw 16 rfl)) (by decide) (backOf (W := 1) (r2_2 l Z a0 hw [] b17 b5 k5 (nar .char (nar .char ((((p1.toUInt32 >>> ((2 : Int32) &&& 31).toUInt32).toInt32) &&& (255 : Int32)).toUInt32.toUInt16.toUInt32.toInt32))) (nar .char (nar .char ((((p1.toUInt32 >>> ((10 : Int32) &&& 31).toUInt32).toInt32) &&& (255 : Int32)).toUInt32.toUInt16.toUInt32.toInt32))) p19 h17 n0 O_E17 f18 H20 hc21 hc22 f23 hc24 f25 A17 g26 f27) hZ (ow hw 16 rfl) (ow hw 12 rfl) (by decide) (by decide)) (g := (mkF m 56 #[iv p1, iv ((p1 &&& (3 : Int32)) % (3 : Int32)), rv b5] [(.ref b5), (.ref b17), (.ref b17)])) rfl (by rw [hml]; rfl) (Steps.refl _) (a := b17) (argsL := [(.ref b5)]) (rest := [(.ref b17)]) (lenOf pd___C_V rfl) rfl wf (hb hby d0_56) (fun _ _ => ⟨rfl, e17, (by decide : 2 + 1 ≤ _), (by decide : 6 + 2 ≤ _)⟩))
  obtain ⟨b28_0, k28_0, rfl, N28q, K28, lo28_1, f28_2, f28_3, f28_4, f28_5, f28_6⟩ := hQ28
  have N28 := Fr.app N16 N28q
  have z29 : h0.size ≤ b17 := Nat.le_trans Kp_W13.1 (Nat.le_of_eq g17.symm)
  have O_K28 : Old Z n0 T28.heap := O_E17.keep K28 (allS g26 all0)
  have Kp_K28 : Keep h0 T28.heap [] := Kp_E17.trans K28 (allS (Or.inr z29) all0)
  have c_K28 := CHr.keep K28 (allS (Safe.ext E17 C_W13.1 (Safe.new (Nat.le_of_eq g17.symm))) all0) C_E17.1
  have C_K28 := C_E17.trans c_K28
  have z30 : h0.size ≤ b28_0 := Nat.le_trans Kp_E17.1 lo28_1
  have ne31 : b17 ≠ b28_0 := Nat.ne_of_lt (Nat.lt_of_lt_of_le A17.lt lo28_1)
  refine finH (Q := r0_3Q Z p1 p19 h0 n0) (rm := ({ frames := 4, cells := 6, slots := 12, locals := 66 } : Room)) (vm := s.vm) Bd X28 hZ (own_EW hw) C_K28 hh rfl (State.WarmedH.since (State.WarmedH.refl s) 0) (Nat.zero_le _) (some (.ref b17)) nofun ⟨b17, b28_0, k28_0, rfl, N28, Kp_K28, z29, f28_3, f28_2, f28_4, by rw [own_tl2 hc3 hc4]; exact own_arv2 f28_5⟩ (by decide) (by decide) fun fs hr => ?_
  show St p e below s₁ m 0 #[iv p1, un, un] [] _
  refine XS.iloadN X0.here hx rfl (hb hby d0_0) rfl ?_
  refine st2 _ ?_
  refine XS.istoreN X2.here hx rfl (hb hby d0_4) rfl (l' := #[iv p1, iv ((p1 &&& (3 : Int32)) % (3 : Int32)), un]) rfl ?_
  refine XS.iloadN X2.here hx rfl (hb hby d0_5) rfl ?_
  refine XS.ifYes X2.here hx rfl (pc0 := 6) (pc' := 20) rfl (hb hby d0_6) rfl ((if0 _ _).trans (feq hc3).2) (by decide) (by decide) ?_
  refine XS.iloadN X2.here hx rfl (hb hby d0_20) rfl ?_
  refine XS.iconst X2.here hx rfl (hb hby d0_21) ?_
  refine XS.icmpYes X2.here hx rfl (pc0 := 22) (pc' := 33) rfl (hb hby d0_22) rfl (feq hc4).2 (by decide) (by decide) ?_
  refine XS.iconst X2.here hx rfl (hb hby d0_33) ?_
  refine st5 _ ?_
  refine XS.astoreN X5.here hx rfl (hb hby d0_36) rfl rfl (l' := #[iv p1, iv ((p1 &&& (3 : Int32)) % (3 : Int32)), rv b5]) rfl ?_
  refine XS.aloadN X5.here hx rfl (hb hby d0_37) rfl rfl ?_
  refine XS.iconst X5.here hx rfl (hb hby d0_38) ?_
  refine XS.iloadN X5.here hx rfl (hb hby d0_39) rfl ?_
  refine st6 _ ?_
  refine st7 _ ?_
  refine XS.aloadN X7.here hx rfl (hb hby d0_44) rfl rfl ?_
  refine XS.iconst X7.here hx rfl (hb hby d0_45) ?_
  refine XS.iloadN X7.here hx rfl (hb hby d0_46) rfl ?_
  refine st12 _ ?_
  refine st13 _ ?_
  refine st17 _ ?_
  refine XS.dup X17.here hx rfl (hb hby d0_54) rfl rfl ?_
  refine XS.aloadN X17.here hx rfl (hb hby d0_55) rfl rfl ?_
  refine st28.trans ?_
  show St p e below T28 m 59 #[iv p1, iv ((p1 &&& (3 : Int32)) % (3 : Int32)), rv b5] [(.ref b17)] _
  jvm_step X28.here [X28.here.top, hx, (hb hby d0_59), X28.method', Bd.returns, Value.isRef, FieldType.isReference]
  first | (intro acts; rw [hr _ acts rfl rfl rfl]) | rw [hr _ _ rfl rfl rfl]
  exact Steps.refl _
theorem own_text (l : Launch) (Z : State) (a0 : Array Value) (hw : HW a0 Z) (ws : List Jvm.Cond) (p1 p2 : Int32) (h0 : Heap) (n0 : Nat) (O0 : Old Z n0 h0) (H1 : Sta Z Z.heap "java/lang/String" "COMPACT_STRINGS" "Z" (.int p2)) (H2 : ¬ (p2 = (0 : Int32))) :
    MFH l y0 method_6_code 3 (some (.object "java/lang/String")) ws ({ frames := 4, cells := 6, slots := 12, locals := 66 } : Room) Z #[(.int p1)] h0 (own_textQ Z p1 h0 n0) := by
  by_cases g0 : ((p1 &&& (3 : Int32)) % (3 : Int32)) = (0 : Int32)
  · exact r0_1 l Z a0 hw ws p1 h0 n0 O0 g0
  by_cases g1 : ((p1 &&& (3 : Int32)) % (3 : Int32)) = (1 : Int32)
  · exact r0_2 l Z a0 hw ws p1 p2 h0 n0 O0 g0 g1 H1 H2 (own_c1b _).2
  · exact r0_3 l Z a0 hw ws p1 p2 h0 n0 O0 g0 g1 H1 H2 (own_c1bb _) (own_c2bb _)
theorem pd__I_Ljava_lang_String_ : parseMethodDescriptor "(I)Ljava/lang/String;" = some ⟨[.int], some (.object "java/lang/String")⟩ := by decide +kernel
theorem d13_0 : decode prog_22_method_1_code 0 = .ok (.aload_n 0, 1) := by decide +kernel
theorem d13_1 : decode prog_22_method_1_code 1 = .ok (.invokespecial 1, 3) := by decide +kernel
theorem d14_0 : decode jdk_30_method_1_code 0 = .ok (.aload_n 0, 1) := by decide +kernel
theorem d14_1 : decode jdk_30_method_1_code 1 = .ok (.invokespecial 1, 3) := by decide +kernel
theorem d14_4 : decode jdk_30_method_1_code 4 = .ok (.return_, 1) := by decide +kernel
abbrev y14 : MethodName := ⟨"java/lang/Record", "<init>", "()V"⟩
theorem pn_java_lang_Record : plainName "java/lang/Record" = true := by first | (simp [plainName, overriddenIn]; done) | decide +kernel
def r14_1Q (Z : State) (a1 : Addr) (h0 : Heap) (n0 : Nat) (v : Option Value) (h : Heap) (L : List Loc) : Prop := v = none ∧ Fr n0 L ∧ h = h0
set_option maxRecDepth 65536 in
set_option maxHeartbeats 40000000 in
theorem r14_1 (l : Launch) (Z : State) (a0 : Array Value) (hw : HW a0 Z) (ws : List Jvm.Cond) (a1 : Addr) (h0 : Heap) (n0 : Nat) (O0 : Old Z n0 h0) :
    MF l y14 jdk_30_method_1_code 1 none ws ({ frames := 1, cells := 0, slots := 0, locals := 12 } : Room) Z #[(.ref a1)] h0 (r14_1Q Z a1 h0 n0) := by
  refine own_in (plainFor_of_name pn_java_lang_Record) #[rv a1] (fun _ => by first | (simp [entryFrame, mkF, argsToLocals, Value.category]; done) | rfl) ?_
  intro p e s m below meth c s₁ Bd hx hby hml hown hnm hZ e0 X0
  have N0 := Fr.nil n0
  obtain ⟨T2, X2, e2, st2⟩ := initO X0 hx hZ hown (ow hw 57 rfl) (ow hw 22 rfl) (ow hw 23 rfl) e0 (g := (mkF m 1 #[rv a1] [(.ref a1)])) rfl (by rw [hml]; rfl) rfl (hb hby d14_1) (by decide) (W := 0) wf (by decide)
  obtain ⟨fs, hr, hrun, hended, hW, hsame⟩ := X2.leave (v := none) (fun _ => rfl)
  refine ⟨_, _, ?_, hrun, hended, _, _, rfl, ?_, ⟨_, rfl⟩, hW, hsame.mono (by decide) (by decide)⟩
  · show St p e below s₁ m 0 #[rv a1] [] _
    refine XS.aloadN X0.here hx rfl (hb hby d14_0) rfl rfl ?_
    refine st2 _ ?_
    exact X2.returnOut hx Bd.returns (hb hby d14_4) hr
  · show r14_1Q Z a1 h0 n0 _ T2.heap _
    rw [e2]
    exact ⟨rfl, N0, rfl⟩
theorem pd___V : parseMethodDescriptor "()V" = some ⟨[], none⟩ := by decide +kernel
theorem d13_4 : decode prog_22_method_1_code 4 = .ok (.aload_n 0, 1) := by decide +kernel
theorem d13_5 : decode prog_22_method_1_code 5 = .ok (.aload_n 1, 1) := by decide +kernel
theorem d13_6 : decode prog_22_method_1_code 6 = .ok (.putfield 7, 3) := by decide +kernel
abbrev xF5 (Z : State) (h : Heap) (a : Addr) (v : Value) : Prop := Fld Z h a "com/example/agave/agave/store/RequestStore$StoredRequest" "route" "Ljava/lang/String;" v
abbrev xE6 (Z : State) (h : Heap) (a : Addr) : Prop := Exa Z h a "com/example/agave/agave/store/RequestStore$StoredRequest"
theorem d13_9 : decode prog_22_method_1_code 9 = .ok (.aload_n 0, 1) := by decide +kernel
theorem d13_10 : decode prog_22_method_1_code 10 = .ok (.aload_n 2, 1) := by decide +kernel
theorem d13_11 : decode prog_22_method_1_code 11 = .ok (.putfield 13, 3) := by decide +kernel
abbrev xF7 (Z : State) (h : Heap) (a : Addr) (v : Value) : Prop := Fld Z h a "com/example/agave/agave/store/RequestStore$StoredRequest" "payload" "Ljava/lang/String;" v
theorem d13_14 : decode prog_22_method_1_code 14 = .ok (.aload_n 0, 1) := by decide +kernel
theorem d13_15 : decode prog_22_method_1_code 15 = .ok (.aload_n 3, 1) := by decide +kernel
theorem d13_16 : decode prog_22_method_1_code 16 = .ok (.putfield 16, 3) := by decide +kernel
abbrev xF8 (Z : State) (h : Heap) (a : Addr) (v : Value) : Prop := Fld Z h a "com/example/agave/agave/store/RequestStore$StoredRequest" "result" "Ljava/util/Optional;" v
theorem d13_19 : decode prog_22_method_1_code 19 = .ok (.aload_n 0, 1) := by decide +kernel
theorem d13_20 : decode prog_22_method_1_code 20 = .ok (.aload 4, 2) := by decide +kernel
theorem d13_22 : decode prog_22_method_1_code 22 = .ok (.putfield 20, 3) := by decide +kernel
abbrev xF9 (Z : State) (h : Heap) (a : Addr) (v : Value) : Prop := Fld Z h a "com/example/agave/agave/store/RequestStore$StoredRequest" "failure" "Ljava/util/Optional;" v
theorem d13_25 : decode prog_22_method_1_code 25 = .ok (.aload_n 0, 1) := by decide +kernel
theorem d13_26 : decode prog_22_method_1_code 26 = .ok (.aload 5, 2) := by decide +kernel
theorem d13_28 : decode prog_22_method_1_code 28 = .ok (.putfield 23, 3) := by decide +kernel
abbrev xF10 (Z : State) (h : Heap) (a : Addr) (v : Value) : Prop := Fld Z h a "com/example/agave/agave/store/RequestStore$StoredRequest" "statusCode" "Ljava/util/Optional;" v
theorem d13_31 : decode prog_22_method_1_code 31 = .ok (.return_, 1) := by decide +kernel
abbrev y13 : MethodName := ⟨"com/example/agave/agave/store/RequestStore$StoredRequest", "<init>", "(Ljava/lang/String;Ljava/lang/String;Ljava/util/Optional;Ljava/util/Optional;Ljava/util/Optional;)V"⟩
theorem pn_com_example_agave_agave_store_RequestStore_StoredRequest : plainName "com/example/agave/agave/store/RequestStore$StoredRequest" = true := by first | (simp [plainName, overriddenIn]; done) | decide +kernel
def r13_1Q (Z : State) (a1 : Addr) (a2 : Addr) (a3 : Addr) (h0 : Heap) (n0 : Nat) (v : Option Value) (h : Heap) (L : List Loc) : Prop := v = none ∧ Fr n0 L ∧ Keep h0 h [a1] ∧ xF5 Z h a1 (.ref a2) ∧ xE6 Z h a1 ∧ xF7 Z h a1 (.ref a3) ∧ xF8 Z h a1 .null ∧ xF9 Z h a1 .null ∧ xF10 Z h a1 .null
set_option maxRecDepth 65536 in
set_option maxHeartbeats 40000000 in
theorem r13_1 (l : Launch) (Z : State) (a0 : Array Value) (hw : HW a0 Z) (ws : List Jvm.Cond) (a1 : Addr) (a2 : Addr) (a3 : Addr) (h0 : Heap) (n0 : Nat) (O0 : Old Z n0 h0) (H5 : xF5 Z h0 a1 .null) (H6 : xE6 Z h0 a1) (H8 : n0 ≤ a1) (H11 : xF7 Z h0 a1 .null) (H17 : xF8 Z h0 a1 .null) (H23 : xF9 Z h0 a1 .null) (H29 : xF10 Z h0 a1 .null) :
    MF l y13 prog_22_method_1_code 6 none ws ({ frames := 2, cells := 0, slots := 0, locals := 24 } : Room) Z #[(.ref a1), (.ref a2), (.ref a3), .null, .null, .null] h0 (r13_1Q Z a1 a2 a3 h0 n0) := by
  refine own_in (plainFor_of_name pn_com_example_agave_agave_store_RequestStore_StoredRequest) #[rv a1, rv a2, rv a3, .val .null, .val .null, .val .null] (fun _ => by first | (simp [entryFrame, mkF, argsToLocals, Value.category]; done) | rfl) ?_
  intro p e s m below meth c s₁ Bd hx hby hml hown hnm hZ e0 X0
  have N0 := Fr.nil n0
  obtain ⟨T4, Lc4, _, X4, hQ4, st4⟩ := fl X0 (X0.specialBack hx (y := y14) rfl hown (mvT hZ (ow hw 52 rfl)) (mvT hZ (ow hw 53 rfl)) (mvT hZ (ow hw 56 rfl)) (by decide) (backOf (W := 0) (r14_1 l Z a0 hw [] a1 h0 n0 O0) hZ (ow hw 56 rfl) (ow hw 55 rfl) (by decide) (by decide)) (g := (mkF m 1 #[rv a1, rv a2, rv a3, .val .null, .val .null, .val .null] [(.ref a1)])) rfl (by rw [hml]; rfl) (Steps.refl _) (a := a1) (argsL := []) (rest := []) (lenOf pd___V rfl) rfl wf (hb hby d13_1) (fun _ _ => ⟨rfl, e0, (by decide : 0 + 0 ≤ _), (by decide : 0 + 0 ≤ _)⟩))
  obtain ⟨rfl, N4q, e4⟩ := hQ4
  have N4 := Fr.app N0 N4q
  obtain ⟨T7, h7, X7, e7, W7, st7⟩ := pF X4 hx hZ hown (ow hw 58 rfl) e4 H5 H6 (Or.inr ⟨(ow hw 59 rfl), rfl, hnm⟩) (ow hw 1 rfl) (ty := (.object "java/lang/String")) (by decide) rfl rfl (g := (mkF m 6 #[rv a1, rv a2, rv a3, .val .null, .val .null, .val .null] [(.ref a2), (.ref a1)])) rfl rfl (hb hby d13_6)
  have O_W7 : Old Z n0 h7 := O0.wr W7 H8
  have Kp_W7 : Keep h0 h7 [a1] := (Keep.refl h0 [a1]).wr W7 (Or.inl (List.mem_of_getElem? (i := 0) rfl))
  have N9 := Fr.snoc X7 N4 H8
  have f10 := H5.same W7
  have f12 := (H6.wr W7)
  have f13 := (H11.other W7 (Or.inr (slot_ne (Or.inr (ow hw 61 rfl)) (Or.inr (ow hw 59 rfl)) (by decide) (t := (.object "java/lang/String")) (t' := (.object "java/lang/String")) (by decide) (by decide))))
  obtain ⟨T14, h14, X14, e14, W14, st14⟩ := pF X7 hx hZ hown (ow hw 60 rfl) e7 f13 f12 (Or.inr ⟨(ow hw 61 rfl), rfl, hnm⟩) (ow hw 1 rfl) (ty := (.object "java/lang/String")) (by decide) rfl rfl (g := (mkF m 11 #[rv a1, rv a2, rv a3, .val .null, .val .null, .val .null] [(.ref a3), (.ref a1)])) rfl rfl (hb hby d13_11)
  have O_W14 : Old Z n0 h14 := O_W7.wr W14 H8
  have Kp_W14 : Keep h0 h14 [a1] := Kp_W7.wr W14 (Or.inl (List.mem_of_getElem? (i := 0) rfl))
  have N15 := Fr.snoc X14 N9 H8
  have f16 := f13.same W14
  have f18 := (f12.wr W14)
  have f19 := ((H17.other W7 (Or.inr (slot_ne (Or.inr (ow hw 63 rfl)) (Or.inr (ow hw 59 rfl)) (by decide) (t := (.object "java/util/Optional")) (t' := (.object "java/lang/String")) (by decide) (by decide)))).other W14 (Or.inr (slot_ne (Or.inr (ow hw 63 rfl)) (Or.inr (ow hw 61 rfl)) (by decide) (t := (.object "java/util/Optional")) (t' := (.object "java/lang/String")) (by decide) (by decide))))
  obtain ⟨T20, h20, X20, e20, W20, st20⟩ := pF X14 hx hZ hown (ow hw 62 rfl) e14 f19 f18 (Or.inr ⟨(ow hw 63 rfl), rfl, hnm⟩) (ow hw 1 rfl) (ty := (.object "java/util/Optional")) (by decide) rfl rfl (g := (mkF m 16 #[rv a1, rv a2, rv a3, .val .null, .val .null, .val .null] [.null, (.ref a1)])) rfl rfl (hb hby d13_16)
  have O_W20 : Old Z n0 h20 := O_W14.wr W20 H8
  have Kp_W20 : Keep h0 h20 [a1] := Kp_W14.wr W20 (Or.inl (List.mem_of_getElem? (i := 0) rfl))
  have N21 := Fr.snoc X20 N15 H8
  have f22 := f19.same W20
  have f24 := (f18.wr W20)
  have f25 := (((H23.other W7 (Or.inr (slot_ne (Or.inr (ow hw 65 rfl)) (Or.inr (ow hw 59 rfl)) (by decide) (t := (.object "java/util/Optional")) (t' := (.object "java/lang/String")) (by decide) (by decide)))).other W14 (Or.inr (slot_ne (Or.inr (ow hw 65 rfl)) (Or.inr (ow hw 61 rfl)) (by decide) (t := (.object "java/util/Optional")) (t' := (.object "java/lang/String")) (by decide) (by decide)))).other W20 (Or.inr (slot_ne (Or.inr (ow hw 65 rfl)) (Or.inr (ow hw 63 rfl)) (by decide) (t := (.object "java/util/Optional")) (t' := (.object "java/util/Optional")) (by decide) (by decide))))
  obtain ⟨T26, h26, X26, e26, W26, st26⟩ := pF X20 hx hZ hown (ow hw 64 rfl) e20 f25 f24 (Or.inr ⟨(ow hw 65 rfl), rfl, hnm⟩) (ow hw 1 rfl) (ty := (.object "java/util/Optional")) (by decide) rfl rfl (g := (mkF m 22 #[rv a1, rv a2, rv a3, .val .null, .val .null, .val .null] [.null, (.ref a1)])) rfl rfl (hb hby d13_22)
  have O_W26 : Old Z n0 h26 := O_W20.wr W26 H8
  have Kp_W26 : Keep h0 h26 [a1] := Kp_W20.wr W26 (Or.inl (List.mem_of_getElem? (i := 0) rfl))
  have N27 := Fr.snoc X26 N21 H8
  have f28 := f25.same W26
  have f30 := (f24.wr W26)
  have f31 := ((((H29.other W7 (Or.inr (slot_ne (Or.inr (ow hw 67 rfl)) (Or.inr (ow hw 59 rfl)) (by decide) (t := (.object "java/util/Optional")) (t' := (.object "java/lang/String")) (by decide) (by decide)))).other W14 (Or.inr (slot_ne (Or.inr (ow hw 67 rfl)) (Or.inr (ow hw 61 rfl)) (by decide) (t := (.object "java/util/Optional")) (t' := (.object "java/lang/String")) (by decide) (by decide)))).other W20 (Or.inr (slot_ne (Or.inr (ow hw 67 rfl)) (Or.inr (ow hw 63 rfl)) (by decide) (t := (.object "java/util/Optional")) (t' := (.object "java/util/Optional")) (by decide) (by decide)))).other W26 (Or.inr (slot_ne (Or.inr (ow hw 67 rfl)) (Or.inr (ow hw 65 rfl)) (by decide) (t := (.object "java/util/Optional")) (t' := (.object "java/util/Optional")) (by decide) (by decide))))
  obtain ⟨T32, h32, X32, e32, W32, st32⟩ := pF X26 hx hZ hown (ow hw 66 rfl) e26 f31 f30 (Or.inr ⟨(ow hw 67 rfl), rfl, hnm⟩) (ow hw 1 rfl) (ty := (.object "java/util/Optional")) (by decide) rfl rfl (g := (mkF m 28 #[rv a1, rv a2, rv a3, .val .null, .val .null, .val .null] [.null, (.ref a1)])) rfl rfl (hb hby d13_28)
  have O_W32 : Old Z n0 h32 := O_W26.wr W32 H8
  have Kp_W32 : Keep h0 h32 [a1] := Kp_W26.wr W32 (Or.inl (List.mem_of_getElem? (i := 0) rfl))
  have N33 := Fr.snoc X32 N27 H8
  have f34 := f31.same W32
  have f35 := (f30.wr W32)
  have f36 := ((((f10.other W14 (Or.inr (slot_ne (Or.inr (ow hw 59 rfl)) (Or.inr (ow hw 61 rfl)) (by decide) (t := (.object "java/lang/String")) (t' := (.object "java/lang/String")) (by decide) (by decide)))).other W20 (Or.inr (slot_ne (Or.inr (ow hw 59 rfl)) (Or.inr (ow hw 63 rfl)) (by decide) (t := (.object "java/lang/String")) (t' := (.object "java/util/Optional")) (by decide) (by decide)))).other W26 (Or.inr (slot_ne (Or.inr (ow hw 59 rfl)) (Or.inr (ow hw 65 rfl)) (by decide) (t := (.object "java/lang/String")) (t' := (.object "java/util/Optional")) (by decide) (by decide)))).other W32 (Or.inr (slot_ne (Or.inr (ow hw 59 rfl)) (Or.inr (ow hw 67 rfl)) (by decide) (t := (.object "java/lang/String")) (t' := (.object "java/util/Optional")) (by decide) (by decide))))
  have f37 := (((f16.other W20 (Or.inr (slot_ne (Or.inr (ow hw 61 rfl)) (Or.inr (ow hw 63 rfl)) (by decide) (t := (.object "java/lang/String")) (t' := (.object "java/util/Optional")) (by decide) (by decide)))).other W26 (Or.inr (slot_ne (Or.inr (ow hw 61 rfl)) (Or.inr (ow hw 65 rfl)) (by decide) (t := (.object "java/lang/String")) (t' := (.object "java/util/Optional")) (by decide) (by decide)))).other W32 (Or.inr (slot_ne (Or.inr (ow hw 61 rfl)) (Or.inr (ow hw 67 rfl)) (by decide) (t := (.object "java/lang/String")) (t' := (.object "java/util/Optional")) (by decide) (by decide))))
  have f38 := ((f22.other W26 (Or.inr (slot_ne (Or.inr (ow hw 63 rfl)) (Or.inr (ow hw 65 rfl)) (by decide) (t := (.object "java/util/Optional")) (t' := (.object "java/util/Optional")) (by decide) (by decide)))).other W32 (Or.inr (slot_ne (Or.inr (ow hw 63 rfl)) (Or.inr (ow hw 67 rfl)) (by decide) (t := (.object "java/util/Optional")) (t' := (.object "java/util/Optional")) (by decide) (by decide))))
  have f39 := (f28.other W32 (Or.inr (slot_ne (Or.inr (ow hw 65 rfl)) (Or.inr (ow hw 67 rfl)) (by decide) (t := (.object "java/util/Optional")) (t' := (.object "java/util/Optional")) (by decide) (by decide))))
  obtain ⟨fs, hr, hrun, hended, hW, hsame⟩ := X32.leave (v := none) (fun _ => rfl)
  refine ⟨_, _, ?_, hrun, hended, _, _, rfl, ?_, ⟨_, rfl⟩, hW, hsame.mono (by decide) (by decide)⟩
  · show St p e below s₁ m 0 #[rv a1, rv a2, rv a3, .val .null, .val .null, .val .null] [] _
    refine XS.aloadN X0.here hx rfl (hb hby d13_0) rfl rfl ?_
    refine st4.trans ?_
    refine XS.aloadN X4.here hx rfl (hb hby d13_4) rfl rfl ?_
    refine XS.aloadN X4.here hx rfl (hb hby d13_5) rfl rfl ?_
    refine st7 _ ?_
    refine XS.aloadN X7.here hx rfl (hb hby d13_9) rfl rfl ?_
    refine XS.aloadN X7.here hx rfl (hb hby d13_10) rfl rfl ?_
    refine st14 _ ?_
    refine XS.aloadN X14.here hx rfl (hb hby d13_14) rfl rfl ?_
    refine XS.aloadN X14.here hx rfl (hb hby d13_15) rfl rfl ?_
    refine st20 _ ?_
    refine XS.aloadN X20.here hx rfl (hb hby d13_19) rfl rfl ?_
    refine XS.aload X20.here hx rfl (hb hby d13_20) rfl rfl ?_
    refine st26 _ ?_
    refine XS.aloadN X26.here hx rfl (hb hby d13_25) rfl rfl ?_
    refine XS.aload X26.here hx rfl (hb hby d13_26) rfl rfl ?_
    refine st32 _ ?_
    exact X32.returnOut hx Bd.returns (hb hby d13_31) hr
  · show r13_1Q Z a1 a2 a3 h0 n0 _ T32.heap _
    rw [e32]
    exact ⟨rfl, N33, Kp_W32, f36, f35, f37, f38, f39, f34⟩
theorem pd__Ljava_lang_String_Ljava_lang_String_Ljava_util_Optional_Ljava_util_Optional_Ljava_util_Optional__V : parseMethodDescriptor "(Ljava/lang/String;Ljava/lang/String;Ljava/util/Optional;Ljava/util/Optional;Ljava/util/Optional;)V" = some ⟨[(.object "java/lang/String"), (.object "java/lang/String"), (.object "java/util/Optional"), (.object "java/util/Optional"), (.object "java/util/Optional")], none⟩ := by decide +kernel
theorem d15_0 : decode prog_22_method_3_code 0 = .ok (.aload_n 0, 1) := by decide +kernel
theorem d15_1 : decode prog_22_method_3_code 1 = .ok (.getfield 7, 3) := by decide +kernel
theorem d15_4 : decode prog_22_method_3_code 4 = .ok (.aload_n 1, 1) := by decide +kernel
theorem d15_5 : decode prog_22_method_3_code 5 = .ok (.invokevirtual 36, 3) := by decide +kernel
theorem pd__Ljava_lang_Object__Z : parseMethodDescriptor "(Ljava/lang/Object;)Z" = some ⟨[(.object "java/lang/Object")], some .boolean⟩ := by decide +kernel
abbrev y16 : MethodName := ⟨"java/lang/String", "equals", "(Ljava/lang/Object;)Z"⟩
theorem d15_8 : decode prog_22_method_3_code 8 = .ok (.ifCond .ne 15, 3) := by decide +kernel
theorem d15_23 : decode prog_22_method_3_code 23 = .ok (.iconst 1, 1) := by decide +kernel
theorem d15_24 : decode prog_22_method_3_code 24 = .ok (.goto 4, 3) := by decide +kernel
theorem d15_28 : decode prog_22_method_3_code 28 = .ok (.istore_n 3, 1) := by decide +kernel
theorem d15_29 : decode prog_22_method_3_code 29 = .ok (.iload_n 3, 1) := by decide +kernel
theorem d15_30 : decode prog_22_method_3_code 30 = .ok (.ifCond .eq 18, 3) := by decide +kernel
theorem d15_33 : decode prog_22_method_3_code 33 = .ok (.aload_n 0, 1) := by decide +kernel
theorem d15_34 : decode prog_22_method_3_code 34 = .ok (.getfield 13, 3) := by decide +kernel
theorem d15_37 : decode prog_22_method_3_code 37 = .ok (.aload_n 2, 1) := by decide +kernel
theorem d15_38 : decode prog_22_method_3_code 38 = .ok (.invokevirtual 36, 3) := by decide +kernel
theorem d15_41 : decode prog_22_method_3_code 41 = .ok (.ifCond .eq 7, 3) := by decide +kernel
theorem d15_44 : decode prog_22_method_3_code 44 = .ok (.iconst 1, 1) := by decide +kernel
theorem d15_45 : decode prog_22_method_3_code 45 = .ok (.goto 4, 3) := by decide +kernel
theorem d15_49 : decode prog_22_method_3_code 49 = .ok (.ireturn, 1) := by decide +kernel
abbrev y15 : MethodName := ⟨"com/example/agave/agave/store/RequestStore$StoredRequest", "isSameRequest", "(Ljava/lang/String;Ljava/lang/String;)Z"⟩
def r15_1Q (Z : State) (a1 : Addr) (a2 : Addr) (a3 : Addr) (a4 : Addr) (a9 : Addr) (k11 : ClassId) (c12 : List Int32) (a17 : Addr) (k19 : ClassId) (c20 : List Int32) (p23 : Int32) (a28 : Addr) (a33 : Addr) (k35 : ClassId) (c36 : List Int32) (a41 : Addr) (k43 : ClassId) (c44 : List Int32) (h0 : Heap) (n0 : Nat) (v : Option Value) (h : Heap) (L : List Loc) : Prop := v = some (.int (1 : Int32)) ∧ Fr n0 L ∧ Keep h0 h []
set_option maxRecDepth 65536 in
set_option maxHeartbeats 40000000 in
theorem r15_1 (l : Launch) (Z : State) (a0 : Array Value) (hw : HW a0 Z) (ws : List Jvm.Cond) (a1 : Addr) (a2 : Addr) (a3 : Addr) (a4 : Addr) (a9 : Addr) (k11 : ClassId) (c12 : List Int32) (a17 : Addr) (k19 : ClassId) (c20 : List Int32) (p23 : Int32) (a28 : Addr) (a33 : Addr) (k35 : ClassId) (c36 : List Int32) (a41 : Addr) (k43 : ClassId) (c44 : List Int32) (h0 : Heap) (n0 : Nat) (O0 : Old Z n0 h0) (H5 : xF5 Z h0 a1 (.ref a4)) (H7 : xE1 Z h0 a4) (H8 : xF2 Z h0 a4 (.int (0 : Int32))) (H10 : xF0 Z h0 a4 (.ref a9)) (H13 : Arv Z h0 a9 k11 .byte (own_tn c12) (own_tb c12) (.int (0 : Int32))) (H14 : own_GT c12) (H15 : xE1 Z h0 a2) (H16 : xF2 Z h0 a2 (.int (0 : Int32))) (H18 : xF0 Z h0 a2 (.ref a17)) (H21 : Arv Z h0 a17 k19 .byte (own_tn c20) (own_tb c20) (.int (0 : Int32))) (H22 : own_GT c20) (H24 : Sta Z Z.heap "java/lang/String" "COMPACT_STRINGS" "Z" (.int p23)) (hc25 : ¬ (p23 = (0 : Int32))) (hc27 : ¬ ((own_eqc c12 c20) = (0 : Int32))) (H29 : xF7 Z h0 a1 (.ref a28)) (H31 : xE1 Z h0 a28) (H32 : xF2 Z h0 a28 (.int (0 : Int32))) (H34 : xF0 Z h0 a28 (.ref a33)) (H37 : Arv Z h0 a33 k35 .byte (own_tn c36) (own_tb c36) (.int (0 : Int32))) (H38 : own_GT c36) (H39 : xE1 Z h0 a3) (H40 : xF2 Z h0 a3 (.int (0 : Int32))) (H42 : xF0 Z h0 a3 (.ref a41)) (H45 : Arv Z h0 a41 k43 .byte (own_tn c44) (own_tb c44) (.int (0 : Int32))) (H46 : own_GT c44) (hc48 : ¬ ((own_eqc c36 c44) = (0 : Int32))) :
    MFH l y15 prog_22_method_3_code 4 (some .boolean) ws ({ frames := 2, cells := 0, slots := 0, locals := 28 } : Room) Z #[(.ref a1), (.ref a2), (.ref a3)] h0 (r15_1Q Z a1 a2 a3 a4 a9 k11 c12 a17 k19 c20 p23 a28 a33 k35 c36 a41 k43 c44 h0 n0) := by
  refine own_inH (plainFor_of_name pn_com_example_agave_agave_store_RequestStore_StoredRequest) #[rv a1, rv a2, rv a3, un] (fun _ => by first | (simp [entryFrame, mkF, argsToLocals, Value.category]; done) | rfl) ?_
  intro p e s m below meth c s₁ Bd hx hby hml hown hnm hZ hh C0 e0 X0
  have N0 := Fr.nil n0
  obtain ⟨T6, X6, e6, st6⟩ := gF X0 hx hZ hown (ow hw 58 rfl) e0 H5 (g := (mkF m 1 #[rv a1, rv a2, rv a3, un] [(.ref a1)])) rfl rfl (hb hby d15_1)
  obtain ⟨cq26, kq26, q26a, q26b, q26c⟩ := isOf hZ e6 H7
  obtain ⟨T26, Lc26, _, X26, hQ26, st26⟩ := fl X6 (X6.virtualBack hx (y := y16) (z := y16) hown (mvT hZ (ow hw 87 rfl)) (mvT hZ (ow hw 88 rfl)) (notFace_of_selects (args := #[]) (mvT hZ (ow hw 90 rfl))) (mvT hZ (ow hw 90 rfl)) (mvT hZ (ow hw 89 rfl)) (by decide) (own_eqB (W := 0) n0 hZ hw (ow hw 11 rfl) H7 H10 H8 H13 H14 H15 H18 H16 H21 H22 (H24.ext O0.2) hc25 (by decide) (by decide)) q26a q26c (g := (mkF m 5 #[rv a1, rv a2, rv a3, un] [(.ref a2), (.ref a4)])) rfl (by rw [hml]; rfl) (Steps.refl _) (argsL := [(.ref a2)]) (rest := []) (lenOf pd__Ljava_lang_Object__Z rfl) rfl wf (hb hby d15_5) (fun _ _ => ⟨rfl, e6, (by decide : 0 + 0 ≤ _), (by decide : 0 + 0 ≤ _)⟩))
  obtain ⟨rfl, N26q, e26⟩ := hQ26
  have N26 := Fr.app N0 N26q
  obtain ⟨T30, X30, e30, st30⟩ := gF X26 hx hZ hown (ow hw 60 rfl) e26 H29 (g := (mkF m 34 #[rv a1, rv a2, rv a3, iv (1 : Int32)] [(.ref a1)])) rfl rfl (hb hby d15_34)
  obtain ⟨cq47, kq47, q47a, q47b, q47c⟩ := isOf hZ e30 H31
  obtain ⟨T47, Lc47, _, X47, hQ47, st47⟩ := fl X30 (X30.virtualBack hx (y := y16) (z := y16) hown (mvT hZ (ow hw 87 rfl)) (mvT hZ (ow hw 88 rfl)) (notFace_of_selects (args := #[]) (mvT hZ (ow hw 90 rfl))) (mvT hZ (ow hw 90 rfl)) (mvT hZ (ow hw 89 rfl)) (by decide) (own_eqB (W := 0) n0 hZ hw (ow hw 11 rfl) H31 H34 H32 H37 H38 H39 H42 H40 H45 H46 (H24.ext O0.2) hc25 (by decide) (by decide)) q47a q47c (g := (mkF m 38 #[rv a1, rv a2, rv a3, iv (1 : Int32)] [(.ref a3), (.ref a28)])) rfl (by rw [hml]; rfl) (Steps.refl _) (argsL := [(.ref a3)]) (rest := []) (lenOf pd__Ljava_lang_Object__Z rfl) rfl wf (hb hby d15_38) (fun _ _ => ⟨rfl, e30, (by decide : 0 + 0 ≤ _), (by decide : 0 + 0 ≤ _)⟩))
  obtain ⟨rfl, N47q, e47⟩ := hQ47
  have N47 := Fr.app N26 N47q
  refine finH (Q := r15_1Q Z a1 a2 a3 a4 a9 k11 c12 a17 k19 c20 p23 a28 a33 k35 c36 a41 k43 c44 h0 n0) (rm := ({ frames := 2, cells := 0, slots := 0, locals := 28 } : Room)) (vm := s.vm) Bd X47 hZ (own_EW hw) C0 hh e47 (State.WarmedH.since (State.WarmedH.refl s) 0) (Nat.zero_le _) (some (.int (1 : Int32))) nofun ⟨rfl, N47, (Keep.refl h0 [])⟩ (by decide) (by decide) fun fs hr => ?_
  show St p e below s₁ m 0 #[rv a1, rv a2, rv a3, un] [] _
  refine XS.aloadN X0.here hx rfl (hb hby d15_0) rfl rfl ?_
  refine st6 _ ?_
  refine XS.aloadN X6.here hx rfl (hb hby d15_4) rfl rfl ?_
  refine st26.trans ?_
  refine XS.ifYes X26.here hx rfl (pc0 := 8) (pc' := 23) rfl (hb hby d15_8) rfl ((if0 _ _).trans (feq hc27).2) (by decide) (by decide) ?_
  refine XS.iconst X26.here hx rfl (hb hby d15_23) ?_
  refine XS.goto X26.here hx rfl (pc0 := 24) (pc' := 28) rfl (hb hby d15_24) (by decide) (by decide) ?_
  refine XS.istoreN X26.here hx rfl (hb hby d15_28) rfl (l' := #[rv a1, rv a2, rv a3, iv (1 : Int32)]) rfl ?_
  refine XS.iloadN X26.here hx rfl (hb hby d15_29) rfl ?_
  refine XS.ifNo X26.here hx rfl (hb hby d15_30) rfl ((if0 _ _).trans (feq (by decide : ¬ ((1 : Int32) = (0 : Int32)))).1) ?_
  refine XS.aloadN X26.here hx rfl (hb hby d15_33) rfl rfl ?_
  refine st30 _ ?_
  refine XS.aloadN X30.here hx rfl (hb hby d15_37) rfl rfl ?_
  refine st47.trans ?_
  refine XS.ifNo X47.here hx rfl (hb hby d15_41) rfl ((if0 _ _).trans (feq hc48).1) ?_
  refine XS.iconst X47.here hx rfl (hb hby d15_44) ?_
  refine XS.goto X47.here hx rfl (pc0 := 45) (pc' := 49) rfl (hb hby d15_45) (by decide) (by decide) ?_
  exact retN X47 hx (t := .boolean) Bd.returns (by simp) (hb hby d15_49) hr
theorem pd__Ljava_lang_String_Ljava_lang_String__Z : parseMethodDescriptor "(Ljava/lang/String;Ljava/lang/String;)Z" = some ⟨[(.object "java/lang/String"), (.object "java/lang/String")], some .boolean⟩ := by decide +kernel
theorem d17_0 : decode method_7_code 0 = .ok (.iload_n 0, 1) := by decide +kernel
theorem d17_1 : decode method_7_code 1 = .ok (.invokestatic 26, 3) := by decide +kernel
theorem d17_4 : decode method_7_code 4 = .ok (.istore_n 2, 1) := by decide +kernel
theorem d17_5 : decode method_7_code 5 = .ok (.iload_n 2, 1) := by decide +kernel
theorem d17_6 : decode method_7_code 6 = .ok (.iload_n 1, 1) := by decide +kernel
theorem d17_7 : decode method_7_code 7 = .ok (.invokestatic 26, 3) := by decide +kernel
theorem d17_10 : decode method_7_code 10 = .ok (.if_icmp .ne 39, 3) := by decide +kernel
theorem d17_49 : decode method_7_code 49 = .ok (.iconst 0, 1) := by decide +kernel
theorem d17_50 : decode method_7_code 50 = .ok (.ireturn, 1) := by decide +kernel
theorem d17_13 : decode method_7_code 13 = .ok (.iload_n 2, 1) := by decide +kernel
theorem d17_14 : decode method_7_code 14 = .ok (.iconst 1, 1) := by decide +kernel
theorem d17_15 : decode method_7_code 15 = .ok (.if_icmp .lt 14, 3) := by decide +kernel
theorem d17_29 : decode method_7_code 29 = .ok (.iload_n 2, 1) := by decide +kernel
theorem d17_30 : decode method_7_code 30 = .ok (.iconst 2, 1) := by decide +kernel
theorem d17_31 : decode method_7_code 31 = .ok (.if_icmp .lt 14, 3) := by decide +kernel
theorem d17_45 : decode method_7_code 45 = .ok (.iconst 1, 1) := by decide +kernel
theorem d17_46 : decode method_7_code 46 = .ok (.goto 4, 3) := by decide +kernel
theorem d17_18 : decode method_7_code 18 = .ok (.iload_n 0, 1) := by decide +kernel
theorem d17_19 : decode method_7_code 19 = .ok (.invokestatic 35, 3) := by decide +kernel
theorem d17_22 : decode method_7_code 22 = .ok (.iload_n 1, 1) := by decide +kernel
theorem d17_23 : decode method_7_code 23 = .ok (.invokestatic 35, 3) := by decide +kernel
theorem d17_26 : decode method_7_code 26 = .ok (.if_icmp .ne 23, 3) := by decide +kernel
theorem d17_34 : decode method_7_code 34 = .ok (.iload_n 0, 1) := by decide +kernel
theorem d17_35 : decode method_7_code 35 = .ok (.invokestatic 43, 3) := by decide +kernel
theorem d17_38 : decode method_7_code 38 = .ok (.iload_n 1, 1) := by decide +kernel
theorem d17_39 : decode method_7_code 39 = .ok (.invokestatic 43, 3) := by decide +kernel
theorem d17_42 : decode method_7_code 42 = .ok (.if_icmp .ne 7, 3) := by decide +kernel
abbrev y17 : MethodName := ⟨"com/example/agave/agave/store/StoredRequestIsSameRequestPinLaw", "sameText", "(II)Z"⟩
def r17_1Q (Z : State) (p1 : Int32) (p2 : Int32) (h0 : Heap) (n0 : Nat) (v : Option Value) (h : Heap) (L : List Loc) : Prop := v = some (.int (0 : Int32)) ∧ Fr n0 L ∧ h = h0
set_option maxRecDepth 65536 in
set_option maxHeartbeats 40000000 in
theorem r17_1 (l : Launch) (Z : State) (a0 : Array Value) (hw : HW a0 Z) (ws : List Jvm.Cond) (p1 : Int32) (p2 : Int32) (h0 : Heap) (n0 : Nat) (O0 : Old Z n0 h0) (hc5 : ¬ (((p1 &&& (3 : Int32)) % (3 : Int32)) = ((p2 &&& (3 : Int32)) % (3 : Int32)))) :
    MF l y17 method_7_code 3 (some .boolean) ws ({ frames := 1, cells := 0, slots := 0, locals := 13 } : Room) Z #[(.int p1), (.int p2)] h0 (r17_1Q Z p1 p2 h0 n0) := by
  refine own_in (plainFor_of_name pn_com_example_agave_agave_store_StoredRequestIsSameRequestPinLaw) #[iv p1, iv p2, un] (fun _ => by first | (simp [entryFrame, mkF, argsToLocals, Value.category]; done) | rfl) ?_
  intro p e s m below meth c s₁ Bd hx hby hml hown hnm hZ e0 X0
  have N0 := Fr.nil n0
  obtain ⟨T3, Lc3, _, X3, hQ3, st3⟩ := flC X0 (Jvm.LawKit.callS X0 hx (y := y1) hown (mvT hZ (ow hw 7 rfl)) (mvT hZ (ow hw 8 rfl)) (mvT hZ (ow hw 5 rfl)) (mvT hZ (ow hw 9 rfl)) (by decide) (backOf (W := 0) (r1_1 l Z a0 hw [] p1 h0 n0 O0) hZ (ow hw 9 rfl) (ow hw 5 rfl) (by decide) (by decide)) (g := (mkF m 1 #[iv p1, iv p2, un] [(.int p1)])) rfl (by rw [hml]; rfl) (argsL := [(.int p1)]) (rest := []) (lenOf pd__I_I rfl) rfl wf (hb hby d17_1) (fun _ _ => ⟨rfl, e0, (by decide : 0 + 0 ≤ _), (by decide : 0 + 0 ≤ _)⟩))
  obtain ⟨rfl, N3q, e3⟩ := hQ3
  have N3 := Fr.app N0 N3q
  obtain ⟨T4, Lc4, _, X4, hQ4, st4⟩ := flC X3 (Jvm.LawKit.callS X3 hx (y := y1) hown (mvT hZ (ow hw 7 rfl)) (mvT hZ (ow hw 8 rfl)) (mvT hZ (ow hw 5 rfl)) (mvT hZ (ow hw 9 rfl)) (by decide) (backOf (W := 1) (r1_1 l Z a0 hw [] p2 h0 n0 O0) hZ (ow hw 9 rfl) (ow hw 5 rfl) (by decide) (by decide)) (g := (mkF m 7 #[iv p1, iv p2, iv ((p1 &&& (3 : Int32)) % (3 : Int32))] [(.int p2), (.int ((p1 &&& (3 : Int32)) % (3 : Int32)))])) rfl (by rw [hml]; rfl) (argsL := [(.int p2)]) (rest := [(.int ((p1 &&& (3 : Int32)) % (3 : Int32)))]) (lenOf pd__I_I rfl) rfl wf (hb hby d17_7) (fun _ _ => ⟨rfl, e3, (by decide : 0 + 0 ≤ _), (by decide : 0 + 0 ≤ _)⟩))
  obtain ⟨rfl, N4q, e4⟩ := hQ4
  have N4 := Fr.app N3 N4q
  obtain ⟨fs, hr, hrun, hended, hW, hsame⟩ := X4.leave (v := some (.int (0 : Int32))) (fun h => by rw [Bd.returns] at h; cases h)
  refine ⟨_, _, ?_, hrun, hended, _, _, rfl, ?_, ⟨_, rfl⟩, hW, hsame.mono (by decide) (by decide)⟩
  · show St p e below s₁ m 0 #[iv p1, iv p2, un] [] _
    refine XS.iloadN X0.here hx rfl (hb hby d17_0) rfl ?_
    refine st3 _ ?_
    refine XS.istoreN X3.here hx rfl (hb hby d17_4) rfl (l' := #[iv p1, iv p2, iv ((p1 &&& (3 : Int32)) % (3 : Int32))]) rfl ?_
    refine XS.iloadN X3.here hx rfl (hb hby d17_5) rfl ?_
    refine XS.iloadN X3.here hx rfl (hb hby d17_6) rfl ?_
    refine st4 _ ?_
    refine XS.icmpYes X4.here hx rfl (pc0 := 10) (pc' := 49) rfl (hb hby d17_10) rfl (feq hc5).2 (by decide) (by decide) ?_
    refine XS.iconst X4.here hx rfl (hb hby d17_49) ?_
    exact retN X4 hx (t := .boolean) Bd.returns (by simp) (hb hby d17_50) hr
  · show r17_1Q Z p1 p2 h0 n0 _ T4.heap _
    rw [e4]
    exact ⟨rfl, N4, rfl⟩
def r17_2Q (Z : State) (p1 : Int32) (p2 : Int32) (h0 : Heap) (n0 : Nat) (v : Option Value) (h : Heap) (L : List Loc) : Prop := v = some (.int (1 : Int32)) ∧ Fr n0 L ∧ h = h0
set_option maxRecDepth 65536 in
set_option maxHeartbeats 40000000 in
theorem r17_2 (l : Launch) (Z : State) (a0 : Array Value) (hw : HW a0 Z) (ws : List Jvm.Cond) (p1 : Int32) (p2 : Int32) (h0 : Heap) (n0 : Nat) (O0 : Old Z n0 h0) (hc5 : ((p1 &&& (3 : Int32)) % (3 : Int32)) = ((p2 &&& (3 : Int32)) % (3 : Int32))) (hc6 : ((p1 &&& (3 : Int32)) % (3 : Int32)) < (1 : Int32)) (hc7 : ((p1 &&& (3 : Int32)) % (3 : Int32)) < (2 : Int32)) :
    MF l y17 method_7_code 3 (some .boolean) ws ({ frames := 1, cells := 0, slots := 0, locals := 13 } : Room) Z #[(.int p1), (.int p2)] h0 (r17_2Q Z p1 p2 h0 n0) := by
  refine own_in (plainFor_of_name pn_com_example_agave_agave_store_StoredRequestIsSameRequestPinLaw) #[iv p1, iv p2, un] (fun _ => by first | (simp [entryFrame, mkF, argsToLocals, Value.category]; done) | rfl) ?_
  intro p e s m below meth c s₁ Bd hx hby hml hown hnm hZ e0 X0
  have N0 := Fr.nil n0
  obtain ⟨T3, Lc3, _, X3, hQ3, st3⟩ := flC X0 (Jvm.LawKit.callS X0 hx (y := y1) hown (mvT hZ (ow hw 7 rfl)) (mvT hZ (ow hw 8 rfl)) (mvT hZ (ow hw 5 rfl)) (mvT hZ (ow hw 9 rfl)) (by decide) (backOf (W := 0) (r1_1 l Z a0 hw [] p1 h0 n0 O0) hZ (ow hw 9 rfl) (ow hw 5 rfl) (by decide) (by decide)) (g := (mkF m 1 #[iv p1, iv p2, un] [(.int p1)])) rfl (by rw [hml]; rfl) (argsL := [(.int p1)]) (rest := []) (lenOf pd__I_I rfl) rfl wf (hb hby d17_1) (fun _ _ => ⟨rfl, e0, (by decide : 0 + 0 ≤ _), (by decide : 0 + 0 ≤ _)⟩))
  obtain ⟨rfl, N3q, e3⟩ := hQ3
  have N3 := Fr.app N0 N3q
  obtain ⟨T4, Lc4, _, X4, hQ4, st4⟩ := flC X3 (Jvm.LawKit.callS X3 hx (y := y1) hown (mvT hZ (ow hw 7 rfl)) (mvT hZ (ow hw 8 rfl)) (mvT hZ (ow hw 5 rfl)) (mvT hZ (ow hw 9 rfl)) (by decide) (backOf (W := 1) (r1_1 l Z a0 hw [] p2 h0 n0 O0) hZ (ow hw 9 rfl) (ow hw 5 rfl) (by decide) (by decide)) (g := (mkF m 7 #[iv p1, iv p2, iv ((p1 &&& (3 : Int32)) % (3 : Int32))] [(.int p2), (.int ((p1 &&& (3 : Int32)) % (3 : Int32)))])) rfl (by rw [hml]; rfl) (argsL := [(.int p2)]) (rest := [(.int ((p1 &&& (3 : Int32)) % (3 : Int32)))]) (lenOf pd__I_I rfl) rfl wf (hb hby d17_7) (fun _ _ => ⟨rfl, e3, (by decide : 0 + 0 ≤ _), (by decide : 0 + 0 ≤ _)⟩))
  obtain ⟨rfl, N4q, e4⟩ := hQ4
  have N4 := Fr.app N3 N4q
  obtain ⟨fs, hr, hrun, hended, hW, hsame⟩ := X4.leave (v := some (.int (1 : Int32))) (fun h => by rw [Bd.returns] at h; cases h)
  refine ⟨_, _, ?_, hrun, hended, _, _, rfl, ?_, ⟨_, rfl⟩, hW, hsame.mono (by decide) (by decide)⟩
  · show St p e below s₁ m 0 #[iv p1, iv p2, un] [] _
    refine XS.iloadN X0.here hx rfl (hb hby d17_0) rfl ?_
    refine st3 _ ?_
    refine XS.istoreN X3.here hx rfl (hb hby d17_4) rfl (l' := #[iv p1, iv p2, iv ((p1 &&& (3 : Int32)) % (3 : Int32))]) rfl ?_
    refine XS.iloadN X3.here hx rfl (hb hby d17_5) rfl ?_
    refine XS.iloadN X3.here hx rfl (hb hby d17_6) rfl ?_
    refine st4 _ ?_
    refine XS.icmpNo X4.here hx rfl (hb hby d17_10) rfl (teq hc5).2 ?_
    refine XS.iloadN X4.here hx rfl (hb hby d17_13) rfl ?_
    refine XS.iconst X4.here hx rfl (hb hby d17_14) ?_
    refine XS.icmpYes X4.here hx rfl (pc0 := 15) (pc' := 29) rfl (hb hby d17_15) rfl (tlt hc6).1 (by decide) (by decide) ?_
    refine XS.iloadN X4.here hx rfl (hb hby d17_29) rfl ?_
    refine XS.iconst X4.here hx rfl (hb hby d17_30) ?_
    refine XS.icmpYes X4.here hx rfl (pc0 := 31) (pc' := 45) rfl (hb hby d17_31) rfl (tlt hc7).1 (by decide) (by decide) ?_
    refine XS.iconst X4.here hx rfl (hb hby d17_45) ?_
    refine XS.goto X4.here hx rfl (pc0 := 46) (pc' := 50) rfl (hb hby d17_46) (by decide) (by decide) ?_
    exact retN X4 hx (t := .boolean) Bd.returns (by simp) (hb hby d17_50) hr
  · show r17_2Q Z p1 p2 h0 n0 _ T4.heap _
    rw [e4]
    exact ⟨rfl, N4, rfl⟩
def r17_3Q (Z : State) (p1 : Int32) (p2 : Int32) (h0 : Heap) (n0 : Nat) (v : Option Value) (h : Heap) (L : List Loc) : Prop := v = some (.int (0 : Int32)) ∧ Fr n0 L ∧ h = h0
set_option maxRecDepth 65536 in
set_option maxHeartbeats 40000000 in
theorem r17_3 (l : Launch) (Z : State) (a0 : Array Value) (hw : HW a0 Z) (ws : List Jvm.Cond) (p1 : Int32) (p2 : Int32) (h0 : Heap) (n0 : Nat) (O0 : Old Z n0 h0) (hc5 : ((p1 &&& (3 : Int32)) % (3 : Int32)) = ((p2 &&& (3 : Int32)) % (3 : Int32))) (hc6 : ¬ (((p1 &&& (3 : Int32)) % (3 : Int32)) < (1 : Int32))) (hc9 : ¬ ((nar .char ((((p1.toUInt32 >>> ((2 : Int32) &&& 31).toUInt32).toInt32) &&& (255 : Int32)).toUInt32.toUInt16.toUInt32.toInt32)) = (nar .char ((((p2.toUInt32 >>> ((2 : Int32) &&& 31).toUInt32).toInt32) &&& (255 : Int32)).toUInt32.toUInt16.toUInt32.toInt32)))) :
    MF l y17 method_7_code 3 (some .boolean) ws ({ frames := 1, cells := 0, slots := 0, locals := 13 } : Room) Z #[(.int p1), (.int p2)] h0 (r17_3Q Z p1 p2 h0 n0) := by
  refine own_in (plainFor_of_name pn_com_example_agave_agave_store_StoredRequestIsSameRequestPinLaw) #[iv p1, iv p2, un] (fun _ => by first | (simp [entryFrame, mkF, argsToLocals, Value.category]; done) | rfl) ?_
  intro p e s m below meth c s₁ Bd hx hby hml hown hnm hZ e0 X0
  have N0 := Fr.nil n0
  obtain ⟨T3, Lc3, _, X3, hQ3, st3⟩ := flC X0 (Jvm.LawKit.callS X0 hx (y := y1) hown (mvT hZ (ow hw 7 rfl)) (mvT hZ (ow hw 8 rfl)) (mvT hZ (ow hw 5 rfl)) (mvT hZ (ow hw 9 rfl)) (by decide) (backOf (W := 0) (r1_1 l Z a0 hw [] p1 h0 n0 O0) hZ (ow hw 9 rfl) (ow hw 5 rfl) (by decide) (by decide)) (g := (mkF m 1 #[iv p1, iv p2, un] [(.int p1)])) rfl (by rw [hml]; rfl) (argsL := [(.int p1)]) (rest := []) (lenOf pd__I_I rfl) rfl wf (hb hby d17_1) (fun _ _ => ⟨rfl, e0, (by decide : 0 + 0 ≤ _), (by decide : 0 + 0 ≤ _)⟩))
  obtain ⟨rfl, N3q, e3⟩ := hQ3
  have N3 := Fr.app N0 N3q
  obtain ⟨T4, Lc4, _, X4, hQ4, st4⟩ := flC X3 (Jvm.LawKit.callS X3 hx (y := y1) hown (mvT hZ (ow hw 7 rfl)) (mvT hZ (ow hw 8 rfl)) (mvT hZ (ow hw 5 rfl)) (mvT hZ (ow hw 9 rfl)) (by decide) (backOf (W := 1) (r1_1 l Z a0 hw [] p2 h0 n0 O0) hZ (ow hw 9 rfl) (ow hw 5 rfl) (by decide) (by decide)) (g := (mkF m 7 #[iv p1, iv p2, iv ((p1 &&& (3 : Int32)) % (3 : Int32))] [(.int p2), (.int ((p1 &&& (3 : Int32)) % (3 : Int32)))])) rfl (by rw [hml]; rfl) (argsL := [(.int p2)]) (rest := [(.int ((p1 &&& (3 : Int32)) % (3 : Int32)))]) (lenOf pd__I_I rfl) rfl wf (hb hby d17_7) (fun _ _ => ⟨rfl, e3, (by decide : 0 + 0 ≤ _), (by decide : 0 + 0 ≤ _)⟩))
  obtain ⟨rfl, N4q, e4⟩ := hQ4
  have N4 := Fr.app N3 N4q
  obtain ⟨T7, Lc7, _, X7, hQ7, st7⟩ := flC X4 (Jvm.LawKit.callS X4 hx (y := y4) hown (mvT hZ (ow hw 32 rfl)) (mvT hZ (ow hw 33 rfl)) (mvT hZ (ow hw 5 rfl)) (mvT hZ (ow hw 34 rfl)) (by decide) (backOf (W := 0) (r4_1 l Z a0 hw [] p1 h0 n0 O0) hZ (ow hw 34 rfl) (ow hw 5 rfl) (by decide) (by decide)) (g := (mkF m 19 #[iv p1, iv p2, iv ((p1 &&& (3 : Int32)) % (3 : Int32))] [(.int p1)])) rfl (by rw [hml]; rfl) (argsL := [(.int p1)]) (rest := []) (lenOf pd__I_C rfl) rfl wf (hb hby d17_19) (fun _ _ => ⟨rfl, e4, (by decide : 0 + 0 ≤ _), (by decide : 0 + 0 ≤ _)⟩))
  obtain ⟨rfl, N7q, e7⟩ := hQ7
  have N7 := Fr.app N4 N7q
  obtain ⟨T8, Lc8, _, X8, hQ8, st8⟩ := flC X7 (Jvm.LawKit.callS X7 hx (y := y4) hown (mvT hZ (ow hw 32 rfl)) (mvT hZ (ow hw 33 rfl)) (mvT hZ (ow hw 5 rfl)) (mvT hZ (ow hw 34 rfl)) (by decide) (backOf (W := 1) (r4_1 l Z a0 hw [] p2 h0 n0 O0) hZ (ow hw 34 rfl) (ow hw 5 rfl) (by decide) (by decide)) (g := (mkF m 23 #[iv p1, iv p2, iv ((p1 &&& (3 : Int32)) % (3 : Int32))] [(.int p2), (.int (nar .char ((((p1.toUInt32 >>> ((2 : Int32) &&& 31).toUInt32).toInt32) &&& (255 : Int32)).toUInt32.toUInt16.toUInt32.toInt32)))])) rfl (by rw [hml]; rfl) (argsL := [(.int p2)]) (rest := [(.int (nar .char ((((p1.toUInt32 >>> ((2 : Int32) &&& 31).toUInt32).toInt32) &&& (255 : Int32)).toUInt32.toUInt16.toUInt32.toInt32)))]) (lenOf pd__I_C rfl) rfl wf (hb hby d17_23) (fun _ _ => ⟨rfl, e7, (by decide : 0 + 0 ≤ _), (by decide : 0 + 0 ≤ _)⟩))
  obtain ⟨rfl, N8q, e8⟩ := hQ8
  have N8 := Fr.app N7 N8q
  obtain ⟨fs, hr, hrun, hended, hW, hsame⟩ := X8.leave (v := some (.int (0 : Int32))) (fun h => by rw [Bd.returns] at h; cases h)
  refine ⟨_, _, ?_, hrun, hended, _, _, rfl, ?_, ⟨_, rfl⟩, hW, hsame.mono (by decide) (by decide)⟩
  · show St p e below s₁ m 0 #[iv p1, iv p2, un] [] _
    refine XS.iloadN X0.here hx rfl (hb hby d17_0) rfl ?_
    refine st3 _ ?_
    refine XS.istoreN X3.here hx rfl (hb hby d17_4) rfl (l' := #[iv p1, iv p2, iv ((p1 &&& (3 : Int32)) % (3 : Int32))]) rfl ?_
    refine XS.iloadN X3.here hx rfl (hb hby d17_5) rfl ?_
    refine XS.iloadN X3.here hx rfl (hb hby d17_6) rfl ?_
    refine st4 _ ?_
    refine XS.icmpNo X4.here hx rfl (hb hby d17_10) rfl (teq hc5).2 ?_
    refine XS.iloadN X4.here hx rfl (hb hby d17_13) rfl ?_
    refine XS.iconst X4.here hx rfl (hb hby d17_14) ?_
    refine XS.icmpNo X4.here hx rfl (hb hby d17_15) rfl (flt hc6).1 ?_
    refine XS.iloadN X4.here hx rfl (hb hby d17_18) rfl ?_
    refine st7 _ ?_
    refine XS.iloadN X7.here hx rfl (hb hby d17_22) rfl ?_
    refine st8 _ ?_
    refine XS.icmpYes X8.here hx rfl (pc0 := 26) (pc' := 49) rfl (hb hby d17_26) rfl (feq hc9).2 (by decide) (by decide) ?_
    refine XS.iconst X8.here hx rfl (hb hby d17_49) ?_
    exact retN X8 hx (t := .boolean) Bd.returns (by simp) (hb hby d17_50) hr
  · show r17_3Q Z p1 p2 h0 n0 _ T8.heap _
    rw [e8]
    exact ⟨rfl, N8, rfl⟩
def r17_4Q (Z : State) (p1 : Int32) (p2 : Int32) (h0 : Heap) (n0 : Nat) (v : Option Value) (h : Heap) (L : List Loc) : Prop := v = some (.int (1 : Int32)) ∧ Fr n0 L ∧ h = h0
set_option maxRecDepth 65536 in
set_option maxHeartbeats 40000000 in
theorem r17_4 (l : Launch) (Z : State) (a0 : Array Value) (hw : HW a0 Z) (ws : List Jvm.Cond) (p1 : Int32) (p2 : Int32) (h0 : Heap) (n0 : Nat) (O0 : Old Z n0 h0) (hc5 : ((p1 &&& (3 : Int32)) % (3 : Int32)) = ((p2 &&& (3 : Int32)) % (3 : Int32))) (hc6 : ¬ (((p1 &&& (3 : Int32)) % (3 : Int32)) < (1 : Int32))) (hc9 : (nar .char ((((p1.toUInt32 >>> ((2 : Int32) &&& 31).toUInt32).toInt32) &&& (255 : Int32)).toUInt32.toUInt16.toUInt32.toInt32)) = (nar .char ((((p2.toUInt32 >>> ((2 : Int32) &&& 31).toUInt32).toInt32) &&& (255 : Int32)).toUInt32.toUInt16.toUInt32.toInt32))) (hc10 : ((p1 &&& (3 : Int32)) % (3 : Int32)) < (2 : Int32)) :
    MF l y17 method_7_code 3 (some .boolean) ws ({ frames := 1, cells := 0, slots := 0, locals := 13 } : Room) Z #[(.int p1), (.int p2)] h0 (r17_4Q Z p1 p2 h0 n0) := by
  refine own_in (plainFor_of_name pn_com_example_agave_agave_store_StoredRequestIsSameRequestPinLaw) #[iv p1, iv p2, un] (fun _ => by first | (simp [entryFrame, mkF, argsToLocals, Value.category]; done) | rfl) ?_
  intro p e s m below meth c s₁ Bd hx hby hml hown hnm hZ e0 X0
  have N0 := Fr.nil n0
  obtain ⟨T3, Lc3, _, X3, hQ3, st3⟩ := flC X0 (Jvm.LawKit.callS X0 hx (y := y1) hown (mvT hZ (ow hw 7 rfl)) (mvT hZ (ow hw 8 rfl)) (mvT hZ (ow hw 5 rfl)) (mvT hZ (ow hw 9 rfl)) (by decide) (backOf (W := 0) (r1_1 l Z a0 hw [] p1 h0 n0 O0) hZ (ow hw 9 rfl) (ow hw 5 rfl) (by decide) (by decide)) (g := (mkF m 1 #[iv p1, iv p2, un] [(.int p1)])) rfl (by rw [hml]; rfl) (argsL := [(.int p1)]) (rest := []) (lenOf pd__I_I rfl) rfl wf (hb hby d17_1) (fun _ _ => ⟨rfl, e0, (by decide : 0 + 0 ≤ _), (by decide : 0 + 0 ≤ _)⟩))
  obtain ⟨rfl, N3q, e3⟩ := hQ3
  have N3 := Fr.app N0 N3q
  obtain ⟨T4, Lc4, _, X4, hQ4, st4⟩ := flC X3 (Jvm.LawKit.callS X3 hx (y := y1) hown (mvT hZ (ow hw 7 rfl)) (mvT hZ (ow hw 8 rfl)) (mvT hZ (ow hw 5 rfl)) (mvT hZ (ow hw 9 rfl)) (by decide) (backOf (W := 1) (r1_1 l Z a0 hw [] p2 h0 n0 O0) hZ (ow hw 9 rfl) (ow hw 5 rfl) (by decide) (by decide)) (g := (mkF m 7 #[iv p1, iv p2, iv ((p1 &&& (3 : Int32)) % (3 : Int32))] [(.int p2), (.int ((p1 &&& (3 : Int32)) % (3 : Int32)))])) rfl (by rw [hml]; rfl) (argsL := [(.int p2)]) (rest := [(.int ((p1 &&& (3 : Int32)) % (3 : Int32)))]) (lenOf pd__I_I rfl) rfl wf (hb hby d17_7) (fun _ _ => ⟨rfl, e3, (by decide : 0 + 0 ≤ _), (by decide : 0 + 0 ≤ _)⟩))
  obtain ⟨rfl, N4q, e4⟩ := hQ4
  have N4 := Fr.app N3 N4q
  obtain ⟨T7, Lc7, _, X7, hQ7, st7⟩ := flC X4 (Jvm.LawKit.callS X4 hx (y := y4) hown (mvT hZ (ow hw 32 rfl)) (mvT hZ (ow hw 33 rfl)) (mvT hZ (ow hw 5 rfl)) (mvT hZ (ow hw 34 rfl)) (by decide) (backOf (W := 0) (r4_1 l Z a0 hw [] p1 h0 n0 O0) hZ (ow hw 34 rfl) (ow hw 5 rfl) (by decide) (by decide)) (g := (mkF m 19 #[iv p1, iv p2, iv ((p1 &&& (3 : Int32)) % (3 : Int32))] [(.int p1)])) rfl (by rw [hml]; rfl) (argsL := [(.int p1)]) (rest := []) (lenOf pd__I_C rfl) rfl wf (hb hby d17_19) (fun _ _ => ⟨rfl, e4, (by decide : 0 + 0 ≤ _), (by decide : 0 + 0 ≤ _)⟩))
  obtain ⟨rfl, N7q, e7⟩ := hQ7
  have N7 := Fr.app N4 N7q
  obtain ⟨T8, Lc8, _, X8, hQ8, st8⟩ := flC X7 (Jvm.LawKit.callS X7 hx (y := y4) hown (mvT hZ (ow hw 32 rfl)) (mvT hZ (ow hw 33 rfl)) (mvT hZ (ow hw 5 rfl)) (mvT hZ (ow hw 34 rfl)) (by decide) (backOf (W := 1) (r4_1 l Z a0 hw [] p2 h0 n0 O0) hZ (ow hw 34 rfl) (ow hw 5 rfl) (by decide) (by decide)) (g := (mkF m 23 #[iv p1, iv p2, iv ((p1 &&& (3 : Int32)) % (3 : Int32))] [(.int p2), (.int (nar .char ((((p1.toUInt32 >>> ((2 : Int32) &&& 31).toUInt32).toInt32) &&& (255 : Int32)).toUInt32.toUInt16.toUInt32.toInt32)))])) rfl (by rw [hml]; rfl) (argsL := [(.int p2)]) (rest := [(.int (nar .char ((((p1.toUInt32 >>> ((2 : Int32) &&& 31).toUInt32).toInt32) &&& (255 : Int32)).toUInt32.toUInt16.toUInt32.toInt32)))]) (lenOf pd__I_C rfl) rfl wf (hb hby d17_23) (fun _ _ => ⟨rfl, e7, (by decide : 0 + 0 ≤ _), (by decide : 0 + 0 ≤ _)⟩))
  obtain ⟨rfl, N8q, e8⟩ := hQ8
  have N8 := Fr.app N7 N8q
  obtain ⟨fs, hr, hrun, hended, hW, hsame⟩ := X8.leave (v := some (.int (1 : Int32))) (fun h => by rw [Bd.returns] at h; cases h)
  refine ⟨_, _, ?_, hrun, hended, _, _, rfl, ?_, ⟨_, rfl⟩, hW, hsame.mono (by decide) (by decide)⟩
  · show St p e below s₁ m 0 #[iv p1, iv p2, un] [] _
    refine XS.iloadN X0.here hx rfl (hb hby d17_0) rfl ?_
    refine st3 _ ?_
    refine XS.istoreN X3.here hx rfl (hb hby d17_4) rfl (l' := #[iv p1, iv p2, iv ((p1 &&& (3 : Int32)) % (3 : Int32))]) rfl ?_
    refine XS.iloadN X3.here hx rfl (hb hby d17_5) rfl ?_
    refine XS.iloadN X3.here hx rfl (hb hby d17_6) rfl ?_
    refine st4 _ ?_
    refine XS.icmpNo X4.here hx rfl (hb hby d17_10) rfl (teq hc5).2 ?_
    refine XS.iloadN X4.here hx rfl (hb hby d17_13) rfl ?_
    refine XS.iconst X4.here hx rfl (hb hby d17_14) ?_
    refine XS.icmpNo X4.here hx rfl (hb hby d17_15) rfl (flt hc6).1 ?_
    refine XS.iloadN X4.here hx rfl (hb hby d17_18) rfl ?_
    refine st7 _ ?_
    refine XS.iloadN X7.here hx rfl (hb hby d17_22) rfl ?_
    refine st8 _ ?_
    refine XS.icmpNo X8.here hx rfl (hb hby d17_26) rfl (teq hc9).2 ?_
    refine XS.iloadN X8.here hx rfl (hb hby d17_29) rfl ?_
    refine XS.iconst X8.here hx rfl (hb hby d17_30) ?_
    refine XS.icmpYes X8.here hx rfl (pc0 := 31) (pc' := 45) rfl (hb hby d17_31) rfl (tlt hc10).1 (by decide) (by decide) ?_
    refine XS.iconst X8.here hx rfl (hb hby d17_45) ?_
    refine XS.goto X8.here hx rfl (pc0 := 46) (pc' := 50) rfl (hb hby d17_46) (by decide) (by decide) ?_
    exact retN X8 hx (t := .boolean) Bd.returns (by simp) (hb hby d17_50) hr
  · show r17_4Q Z p1 p2 h0 n0 _ T8.heap _
    rw [e8]
    exact ⟨rfl, N8, rfl⟩
def r17_5Q (Z : State) (p1 : Int32) (p2 : Int32) (h0 : Heap) (n0 : Nat) (v : Option Value) (h : Heap) (L : List Loc) : Prop := v = some (.int (0 : Int32)) ∧ Fr n0 L ∧ h = h0
set_option maxRecDepth 65536 in
set_option maxHeartbeats 40000000 in
theorem r17_5 (l : Launch) (Z : State) (a0 : Array Value) (hw : HW a0 Z) (ws : List Jvm.Cond) (p1 : Int32) (p2 : Int32) (h0 : Heap) (n0 : Nat) (O0 : Old Z n0 h0) (hc5 : ((p1 &&& (3 : Int32)) % (3 : Int32)) = ((p2 &&& (3 : Int32)) % (3 : Int32))) (hc6 : ¬ (((p1 &&& (3 : Int32)) % (3 : Int32)) < (1 : Int32))) (hc9 : (nar .char ((((p1.toUInt32 >>> ((2 : Int32) &&& 31).toUInt32).toInt32) &&& (255 : Int32)).toUInt32.toUInt16.toUInt32.toInt32)) = (nar .char ((((p2.toUInt32 >>> ((2 : Int32) &&& 31).toUInt32).toInt32) &&& (255 : Int32)).toUInt32.toUInt16.toUInt32.toInt32))) (hc10 : ¬ (((p1 &&& (3 : Int32)) % (3 : Int32)) < (2 : Int32))) (hc13 : ¬ ((nar .char ((((p1.toUInt32 >>> ((10 : Int32) &&& 31).toUInt32).toInt32) &&& (255 : Int32)).toUInt32.toUInt16.toUInt32.toInt32)) = (nar .char ((((p2.toUInt32 >>> ((10 : Int32) &&& 31).toUInt32).toInt32) &&& (255 : Int32)).toUInt32.toUInt16.toUInt32.toInt32)))) :
    MF l y17 method_7_code 3 (some .boolean) ws ({ frames := 1, cells := 0, slots := 0, locals := 13 } : Room) Z #[(.int p1), (.int p2)] h0 (r17_5Q Z p1 p2 h0 n0) := by
  refine own_in (plainFor_of_name pn_com_example_agave_agave_store_StoredRequestIsSameRequestPinLaw) #[iv p1, iv p2, un] (fun _ => by first | (simp [entryFrame, mkF, argsToLocals, Value.category]; done) | rfl) ?_
  intro p e s m below meth c s₁ Bd hx hby hml hown hnm hZ e0 X0
  have N0 := Fr.nil n0
  obtain ⟨T3, Lc3, _, X3, hQ3, st3⟩ := flC X0 (Jvm.LawKit.callS X0 hx (y := y1) hown (mvT hZ (ow hw 7 rfl)) (mvT hZ (ow hw 8 rfl)) (mvT hZ (ow hw 5 rfl)) (mvT hZ (ow hw 9 rfl)) (by decide) (backOf (W := 0) (r1_1 l Z a0 hw [] p1 h0 n0 O0) hZ (ow hw 9 rfl) (ow hw 5 rfl) (by decide) (by decide)) (g := (mkF m 1 #[iv p1, iv p2, un] [(.int p1)])) rfl (by rw [hml]; rfl) (argsL := [(.int p1)]) (rest := []) (lenOf pd__I_I rfl) rfl wf (hb hby d17_1) (fun _ _ => ⟨rfl, e0, (by decide : 0 + 0 ≤ _), (by decide : 0 + 0 ≤ _)⟩))
  obtain ⟨rfl, N3q, e3⟩ := hQ3
  have N3 := Fr.app N0 N3q
  obtain ⟨T4, Lc4, _, X4, hQ4, st4⟩ := flC X3 (Jvm.LawKit.callS X3 hx (y := y1) hown (mvT hZ (ow hw 7 rfl)) (mvT hZ (ow hw 8 rfl)) (mvT hZ (ow hw 5 rfl)) (mvT hZ (ow hw 9 rfl)) (by decide) (backOf (W := 1) (r1_1 l Z a0 hw [] p2 h0 n0 O0) hZ (ow hw 9 rfl) (ow hw 5 rfl) (by decide) (by decide)) (g := (mkF m 7 #[iv p1, iv p2, iv ((p1 &&& (3 : Int32)) % (3 : Int32))] [(.int p2), (.int ((p1 &&& (3 : Int32)) % (3 : Int32)))])) rfl (by rw [hml]; rfl) (argsL := [(.int p2)]) (rest := [(.int ((p1 &&& (3 : Int32)) % (3 : Int32)))]) (lenOf pd__I_I rfl) rfl wf (hb hby d17_7) (fun _ _ => ⟨rfl, e3, (by decide : 0 + 0 ≤ _), (by decide : 0 + 0 ≤ _)⟩))
  obtain ⟨rfl, N4q, e4⟩ := hQ4
  have N4 := Fr.app N3 N4q
  obtain ⟨T7, Lc7, _, X7, hQ7, st7⟩ := flC X4 (Jvm.LawKit.callS X4 hx (y := y4) hown (mvT hZ (ow hw 32 rfl)) (mvT hZ (ow hw 33 rfl)) (mvT hZ (ow hw 5 rfl)) (mvT hZ (ow hw 34 rfl)) (by decide) (backOf (W := 0) (r4_1 l Z a0 hw [] p1 h0 n0 O0) hZ (ow hw 34 rfl) (ow hw 5 rfl) (by decide) (by decide)) (g := (mkF m 19 #[iv p1, iv p2, iv ((p1 &&& (3 : Int32)) % (3 : Int32))] [(.int p1)])) rfl (by rw [hml]; rfl) (argsL := [(.int p1)]) (rest := []) (lenOf pd__I_C rfl) rfl wf (hb hby d17_19) (fun _ _ => ⟨rfl, e4, (by decide : 0 + 0 ≤ _), (by decide : 0 + 0 ≤ _)⟩))
  obtain ⟨rfl, N7q, e7⟩ := hQ7
  have N7 := Fr.app N4 N7q
  obtain ⟨T8, Lc8, _, X8, hQ8, st8⟩ := flC X7 (Jvm.LawKit.callS X7 hx (y := y4) hown (mvT hZ (ow hw 32 rfl)) (mvT hZ (ow hw 33 rfl)) (mvT hZ (ow hw 5 rfl)) (mvT hZ (ow hw 34 rfl)) (by decide) (backOf (W := 1) (r4_1 l Z a0 hw [] p2 h0 n0 O0) hZ (ow hw 34 rfl) (ow hw 5 rfl) (by decide) (by decide)) (g := (mkF m 23 #[iv p1, iv p2, iv ((p1 &&& (3 : Int32)) % (3 : Int32))] [(.int p2), (.int (nar .char ((((p1.toUInt32 >>> ((2 : Int32) &&& 31).toUInt32).toInt32) &&& (255 : Int32)).toUInt32.toUInt16.toUInt32.toInt32)))])) rfl (by rw [hml]; rfl) (argsL := [(.int p2)]) (rest := [(.int (nar .char ((((p1.toUInt32 >>> ((2 : Int32) &&& 31).toUInt32).toInt32) &&& (255 : Int32)).toUInt32.toUInt16.toUInt32.toInt32)))]) (lenOf pd__I_C rfl) rfl wf (hb hby d17_23) (fun _ _ => ⟨rfl, e7, (by decide : 0 + 0 ≤ _), (by decide : 0 + 0 ≤ _)⟩))
  obtain ⟨rfl, N8q, e8⟩ := hQ8
  have N8 := Fr.app N7 N8q
  obtain ⟨T11, Lc11, _, X11, hQ11, st11⟩ := flC X8 (Jvm.LawKit.callS X8 hx (y := y9) hown (mvT hZ (ow hw 35 rfl)) (mvT hZ (ow hw 36 rfl)) (mvT hZ (ow hw 5 rfl)) (mvT hZ (ow hw 37 rfl)) (by decide) (backOf (W := 0) (r9_1 l Z a0 hw [] p1 h0 n0 O0) hZ (ow hw 37 rfl) (ow hw 5 rfl) (by decide) (by decide)) (g := (mkF m 35 #[iv p1, iv p2, iv ((p1 &&& (3 : Int32)) % (3 : Int32))] [(.int p1)])) rfl (by rw [hml]; rfl) (argsL := [(.int p1)]) (rest := []) (lenOf pd__I_C rfl) rfl wf (hb hby d17_35) (fun _ _ => ⟨rfl, e8, (by decide : 0 + 0 ≤ _), (by decide : 0 + 0 ≤ _)⟩))
  obtain ⟨rfl, N11q, e11⟩ := hQ11
  have N11 := Fr.app N8 N11q
  obtain ⟨T12, Lc12, _, X12, hQ12, st12⟩ := flC X11 (Jvm.LawKit.callS X11 hx (y := y9) hown (mvT hZ (ow hw 35 rfl)) (mvT hZ (ow hw 36 rfl)) (mvT hZ (ow hw 5 rfl)) (mvT hZ (ow hw 37 rfl)) (by decide) (backOf (W := 1) (r9_1 l Z a0 hw [] p2 h0 n0 O0) hZ (ow hw 37 rfl) (ow hw 5 rfl) (by decide) (by decide)) (g := (mkF m 39 #[iv p1, iv p2, iv ((p1 &&& (3 : Int32)) % (3 : Int32))] [(.int p2), (.int (nar .char ((((p1.toUInt32 >>> ((10 : Int32) &&& 31).toUInt32).toInt32) &&& (255 : Int32)).toUInt32.toUInt16.toUInt32.toInt32)))])) rfl (by rw [hml]; rfl) (argsL := [(.int p2)]) (rest := [(.int (nar .char ((((p1.toUInt32 >>> ((10 : Int32) &&& 31).toUInt32).toInt32) &&& (255 : Int32)).toUInt32.toUInt16.toUInt32.toInt32)))]) (lenOf pd__I_C rfl) rfl wf (hb hby d17_39) (fun _ _ => ⟨rfl, e11, (by decide : 0 + 0 ≤ _), (by decide : 0 + 0 ≤ _)⟩))
  obtain ⟨rfl, N12q, e12⟩ := hQ12
  have N12 := Fr.app N11 N12q
  obtain ⟨fs, hr, hrun, hended, hW, hsame⟩ := X12.leave (v := some (.int (0 : Int32))) (fun h => by rw [Bd.returns] at h; cases h)
  refine ⟨_, _, ?_, hrun, hended, _, _, rfl, ?_, ⟨_, rfl⟩, hW, hsame.mono (by decide) (by decide)⟩
  · show St p e below s₁ m 0 #[iv p1, iv p2, un] [] _
    refine XS.iloadN X0.here hx rfl (hb hby d17_0) rfl ?_
    refine st3 _ ?_
    refine XS.istoreN X3.here hx rfl (hb hby d17_4) rfl (l' := #[iv p1, iv p2, iv ((p1 &&& (3 : Int32)) % (3 : Int32))]) rfl ?_
    refine XS.iloadN X3.here hx rfl (hb hby d17_5) rfl ?_
    refine XS.iloadN X3.here hx rfl (hb hby d17_6) rfl ?_
    refine st4 _ ?_
    refine XS.icmpNo X4.here hx rfl (hb hby d17_10) rfl (teq hc5).2 ?_
    refine XS.iloadN X4.here hx rfl (hb hby d17_13) rfl ?_
    refine XS.iconst X4.here hx rfl (hb hby d17_14) ?_
    refine XS.icmpNo X4.here hx rfl (hb hby d17_15) rfl (flt hc6).1 ?_
    refine XS.iloadN X4.here hx rfl (hb hby d17_18) rfl ?_
    refine st7 _ ?_
    refine XS.iloadN X7.here hx rfl (hb hby d17_22) rfl ?_
    refine st8 _ ?_
    refine XS.icmpNo X8.here hx rfl (hb hby d17_26) rfl (teq hc9).2 ?_
    refine XS.iloadN X8.here hx rfl (hb hby d17_29) rfl ?_
    refine XS.iconst X8.here hx rfl (hb hby d17_30) ?_
    refine XS.icmpNo X8.here hx rfl (hb hby d17_31) rfl (flt hc10).1 ?_
    refine XS.iloadN X8.here hx rfl (hb hby d17_34) rfl ?_
    refine st11 _ ?_
    refine XS.iloadN X11.here hx rfl (hb hby d17_38) rfl ?_
    refine st12 _ ?_
    refine XS.icmpYes X12.here hx rfl (pc0 := 42) (pc' := 49) rfl (hb hby d17_42) rfl (feq hc13).2 (by decide) (by decide) ?_
    refine XS.iconst X12.here hx rfl (hb hby d17_49) ?_
    exact retN X12 hx (t := .boolean) Bd.returns (by simp) (hb hby d17_50) hr
  · show r17_5Q Z p1 p2 h0 n0 _ T12.heap _
    rw [e12]
    exact ⟨rfl, N12, rfl⟩
def r17_6Q (Z : State) (p1 : Int32) (p2 : Int32) (h0 : Heap) (n0 : Nat) (v : Option Value) (h : Heap) (L : List Loc) : Prop := v = some (.int (1 : Int32)) ∧ Fr n0 L ∧ h = h0
set_option maxRecDepth 65536 in
set_option maxHeartbeats 40000000 in
theorem r17_6 (l : Launch) (Z : State) (a0 : Array Value) (hw : HW a0 Z) (ws : List Jvm.Cond) (p1 : Int32) (p2 : Int32) (h0 : Heap) (n0 : Nat) (O0 : Old Z n0 h0) (hc5 : ((p1 &&& (3 : Int32)) % (3 : Int32)) = ((p2 &&& (3 : Int32)) % (3 : Int32))) (hc6 : ¬ (((p1 &&& (3 : Int32)) % (3 : Int32)) < (1 : Int32))) (hc9 : (nar .char ((((p1.toUInt32 >>> ((2 : Int32) &&& 31).toUInt32).toInt32) &&& (255 : Int32)).toUInt32.toUInt16.toUInt32.toInt32)) = (nar .char ((((p2.toUInt32 >>> ((2 : Int32) &&& 31).toUInt32).toInt32) &&& (255 : Int32)).toUInt32.toUInt16.toUInt32.toInt32))) (hc10 : ¬ (((p1 &&& (3 : Int32)) % (3 : Int32)) < (2 : Int32))) (hc13 : (nar .char ((((p1.toUInt32 >>> ((10 : Int32) &&& 31).toUInt32).toInt32) &&& (255 : Int32)).toUInt32.toUInt16.toUInt32.toInt32)) = (nar .char ((((p2.toUInt32 >>> ((10 : Int32) &&& 31).toUInt32).toInt32) &&& (255 : Int32)).toUInt32.toUInt16.toUInt32.toInt32))) :
    MF l y17 method_7_code 3 (some .boolean) ws ({ frames := 1, cells := 0, slots := 0, locals := 13 } : Room) Z #[(.int p1), (.int p2)] h0 (r17_6Q Z p1 p2 h0 n0) := by
  refine own_in (plainFor_of_name pn_com_example_agave_agave_store_StoredRequestIsSameRequestPinLaw) #[iv p1, iv p2, un] (fun _ => by first | (simp [entryFrame, mkF, argsToLocals, Value.category]; done) | rfl) ?_
  intro p e s m below meth c s₁ Bd hx hby hml hown hnm hZ e0 X0
  have N0 := Fr.nil n0
  obtain ⟨T3, Lc3, _, X3, hQ3, st3⟩ := flC X0 (Jvm.LawKit.callS X0 hx (y := y1) hown (mvT hZ (ow hw 7 rfl)) (mvT hZ (ow hw 8 rfl)) (mvT hZ (ow hw 5 rfl)) (mvT hZ (ow hw 9 rfl)) (by decide) (backOf (W := 0) (r1_1 l Z a0 hw [] p1 h0 n0 O0) hZ (ow hw 9 rfl) (ow hw 5 rfl) (by decide) (by decide)) (g := (mkF m 1 #[iv p1, iv p2, un] [(.int p1)])) rfl (by rw [hml]; rfl) (argsL := [(.int p1)]) (rest := []) (lenOf pd__I_I rfl) rfl wf (hb hby d17_1) (fun _ _ => ⟨rfl, e0, (by decide : 0 + 0 ≤ _), (by decide : 0 + 0 ≤ _)⟩))
  obtain ⟨rfl, N3q, e3⟩ := hQ3
  have N3 := Fr.app N0 N3q
  obtain ⟨T4, Lc4, _, X4, hQ4, st4⟩ := flC X3 (Jvm.LawKit.callS X3 hx (y := y1) hown (mvT hZ (ow hw 7 rfl)) (mvT hZ (ow hw 8 rfl)) (mvT hZ (ow hw 5 rfl)) (mvT hZ (ow hw 9 rfl)) (by decide) (backOf (W := 1) (r1_1 l Z a0 hw [] p2 h0 n0 O0) hZ (ow hw 9 rfl) (ow hw 5 rfl) (by decide) (by decide)) (g := (mkF m 7 #[iv p1, iv p2, iv ((p1 &&& (3 : Int32)) % (3 : Int32))] [(.int p2), (.int ((p1 &&& (3 : Int32)) % (3 : Int32)))])) rfl (by rw [hml]; rfl) (argsL := [(.int p2)]) (rest := [(.int ((p1 &&& (3 : Int32)) % (3 : Int32)))]) (lenOf pd__I_I rfl) rfl wf (hb hby d17_7) (fun _ _ => ⟨rfl, e3, (by decide : 0 + 0 ≤ _), (by decide : 0 + 0 ≤ _)⟩))
  obtain ⟨rfl, N4q, e4⟩ := hQ4
  have N4 := Fr.app N3 N4q
  obtain ⟨T7, Lc7, _, X7, hQ7, st7⟩ := flC X4 (Jvm.LawKit.callS X4 hx (y := y4) hown (mvT hZ (ow hw 32 rfl)) (mvT hZ (ow hw 33 rfl)) (mvT hZ (ow hw 5 rfl)) (mvT hZ (ow hw 34 rfl)) (by decide) (backOf (W := 0) (r4_1 l Z a0 hw [] p1 h0 n0 O0) hZ (ow hw 34 rfl) (ow hw 5 rfl) (by decide) (by decide)) (g := (mkF m 19 #[iv p1, iv p2, iv ((p1 &&& (3 : Int32)) % (3 : Int32))] [(.int p1)])) rfl (by rw [hml]; rfl) (argsL := [(.int p1)]) (rest := []) (lenOf pd__I_C rfl) rfl wf (hb hby d17_19) (fun _ _ => ⟨rfl, e4, (by decide : 0 + 0 ≤ _), (by decide : 0 + 0 ≤ _)⟩))
  obtain ⟨rfl, N7q, e7⟩ := hQ7
  have N7 := Fr.app N4 N7q
  obtain ⟨T8, Lc8, _, X8, hQ8, st8⟩ := flC X7 (Jvm.LawKit.callS X7 hx (y := y4) hown (mvT hZ (ow hw 32 rfl)) (mvT hZ (ow hw 33 rfl)) (mvT hZ (ow hw 5 rfl)) (mvT hZ (ow hw 34 rfl)) (by decide) (backOf (W := 1) (r4_1 l Z a0 hw [] p2 h0 n0 O0) hZ (ow hw 34 rfl) (ow hw 5 rfl) (by decide) (by decide)) (g := (mkF m 23 #[iv p1, iv p2, iv ((p1 &&& (3 : Int32)) % (3 : Int32))] [(.int p2), (.int (nar .char ((((p1.toUInt32 >>> ((2 : Int32) &&& 31).toUInt32).toInt32) &&& (255 : Int32)).toUInt32.toUInt16.toUInt32.toInt32)))])) rfl (by rw [hml]; rfl) (argsL := [(.int p2)]) (rest := [(.int (nar .char ((((p1.toUInt32 >>> ((2 : Int32) &&& 31).toUInt32).toInt32) &&& (255 : Int32)).toUInt32.toUInt16.toUInt32.toInt32)))]) (lenOf pd__I_C rfl) rfl wf (hb hby d17_23) (fun _ _ => ⟨rfl, e7, (by decide : 0 + 0 ≤ _), (by decide : 0 + 0 ≤ _)⟩))
  obtain ⟨rfl, N8q, e8⟩ := hQ8
  have N8 := Fr.app N7 N8q
  obtain ⟨T11, Lc11, _, X11, hQ11, st11⟩ := flC X8 (Jvm.LawKit.callS X8 hx (y := y9) hown (mvT hZ (ow hw 35 rfl)) (mvT hZ (ow hw 36 rfl)) (mvT hZ (ow hw 5 rfl)) (mvT hZ (ow hw 37 rfl)) (by decide) (backOf (W := 0) (r9_1 l Z a0 hw [] p1 h0 n0 O0) hZ (ow hw 37 rfl) (ow hw 5 rfl) (by decide) (by decide)) (g := (mkF m 35 #[iv p1, iv p2, iv ((p1 &&& (3 : Int32)) % (3 : Int32))] [(.int p1)])) rfl (by rw [hml]; rfl) (argsL := [(.int p1)]) (rest := []) (lenOf pd__I_C rfl) rfl wf (hb hby d17_35) (fun _ _ => ⟨rfl, e8, (by decide : 0 + 0 ≤ _), (by decide : 0 + 0 ≤ _)⟩))
  obtain ⟨rfl, N11q, e11⟩ := hQ11
  have N11 := Fr.app N8 N11q
  obtain ⟨T12, Lc12, _, X12, hQ12, st12⟩ := flC X11 (Jvm.LawKit.callS X11 hx (y := y9) hown (mvT hZ (ow hw 35 rfl)) (mvT hZ (ow hw 36 rfl)) (mvT hZ (ow hw 5 rfl)) (mvT hZ (ow hw 37 rfl)) (by decide) (backOf (W := 1) (r9_1 l Z a0 hw [] p2 h0 n0 O0) hZ (ow hw 37 rfl) (ow hw 5 rfl) (by decide) (by decide)) (g := (mkF m 39 #[iv p1, iv p2, iv ((p1 &&& (3 : Int32)) % (3 : Int32))] [(.int p2), (.int (nar .char ((((p1.toUInt32 >>> ((10 : Int32) &&& 31).toUInt32).toInt32) &&& (255 : Int32)).toUInt32.toUInt16.toUInt32.toInt32)))])) rfl (by rw [hml]; rfl) (argsL := [(.int p2)]) (rest := [(.int (nar .char ((((p1.toUInt32 >>> ((10 : Int32) &&& 31).toUInt32).toInt32) &&& (255 : Int32)).toUInt32.toUInt16.toUInt32.toInt32)))]) (lenOf pd__I_C rfl) rfl wf (hb hby d17_39) (fun _ _ => ⟨rfl, e11, (by decide : 0 + 0 ≤ _), (by decide : 0 + 0 ≤ _)⟩))
  obtain ⟨rfl, N12q, e12⟩ := hQ12
  have N12 := Fr.app N11 N12q
  obtain ⟨fs, hr, hrun, hended, hW, hsame⟩ := X12.leave (v := some (.int (1 : Int32))) (fun h => by rw [Bd.returns] at h; cases h)
  refine ⟨_, _, ?_, hrun, hended, _, _, rfl, ?_, ⟨_, rfl⟩, hW, hsame.mono (by decide) (by decide)⟩
  · show St p e below s₁ m 0 #[iv p1, iv p2, un] [] _
    refine XS.iloadN X0.here hx rfl (hb hby d17_0) rfl ?_
    refine st3 _ ?_
    refine XS.istoreN X3.here hx rfl (hb hby d17_4) rfl (l' := #[iv p1, iv p2, iv ((p1 &&& (3 : Int32)) % (3 : Int32))]) rfl ?_
    refine XS.iloadN X3.here hx rfl (hb hby d17_5) rfl ?_
    refine XS.iloadN X3.here hx rfl (hb hby d17_6) rfl ?_
    refine st4 _ ?_
    refine XS.icmpNo X4.here hx rfl (hb hby d17_10) rfl (teq hc5).2 ?_
    refine XS.iloadN X4.here hx rfl (hb hby d17_13) rfl ?_
    refine XS.iconst X4.here hx rfl (hb hby d17_14) ?_
    refine XS.icmpNo X4.here hx rfl (hb hby d17_15) rfl (flt hc6).1 ?_
    refine XS.iloadN X4.here hx rfl (hb hby d17_18) rfl ?_
    refine st7 _ ?_
    refine XS.iloadN X7.here hx rfl (hb hby d17_22) rfl ?_
    refine st8 _ ?_
    refine XS.icmpNo X8.here hx rfl (hb hby d17_26) rfl (teq hc9).2 ?_
    refine XS.iloadN X8.here hx rfl (hb hby d17_29) rfl ?_
    refine XS.iconst X8.here hx rfl (hb hby d17_30) ?_
    refine XS.icmpNo X8.here hx rfl (hb hby d17_31) rfl (flt hc10).1 ?_
    refine XS.iloadN X8.here hx rfl (hb hby d17_34) rfl ?_
    refine st11 _ ?_
    refine XS.iloadN X11.here hx rfl (hb hby d17_38) rfl ?_
    refine st12 _ ?_
    refine XS.icmpNo X12.here hx rfl (hb hby d17_42) rfl (teq hc13).2 ?_
    refine XS.iconst X12.here hx rfl (hb hby d17_45) ?_
    refine XS.goto X12.here hx rfl (pc0 := 46) (pc' := 50) rfl (hb hby d17_46) (by decide) (by decide) ?_
    show St p e below T12 m 50 #[iv p1, iv p2, iv ((p1 &&& (3 : Int32)) % (3 : Int32))] [(.int (1 : Int32))] _
    exact retN X12 hx (t := .boolean) Bd.returns (by simp) (hb hby d17_50) hr
  · show r17_6Q Z p1 p2 h0 n0 _ T12.heap _
    rw [e12]
    exact ⟨rfl, N12, rfl⟩
theorem own_l3 (x : Int32) : ((x &&& (3 : Int32)) % (3 : Int32)) = (0 : Int32) ∨ ((x &&& (3 : Int32)) % (3 : Int32)) = (1 : Int32) ∨ ((x &&& (3 : Int32)) % (3 : Int32)) = (2 : Int32) := by
  have a := c_mask x 3 2 (by decide) (by decide)
  have b := (c_irem (x &&& 3) 3 3 (by decide)).1 (by omega)
  have h0 : (0 : Int32).toInt = 0 := rfl
  have h1 : (1 : Int32).toInt = 1 := rfl
  have h2 : (2 : Int32).toInt = 2 := rfl
  simp only [← Int32.toInt_inj, h0, h1, h2]
  omega
theorem own_tlen (x : Int32) : own_tn (own_tl x) = ((x &&& (3 : Int32)) % (3 : Int32)) := by
  rcases own_l3 x with a | a | a
  · rw [own_tl0 a, a]; rfl
  · rw [own_tl1 (by rw [a]; decide) a, a]; rfl
  · rw [own_tl2 (by rw [a]; decide) (by rw [a]; decide), a]; rfl
theorem own_e0 {x y : Int32} (q : ¬ (((x &&& (3 : Int32)) % (3 : Int32)) = ((y &&& (3 : Int32)) % (3 : Int32)))) : own_eqc (own_tl x) (own_tl y) = (0 : Int32) := if_neg fun e => q (by rw [← own_tlen, ← own_tlen, e])
theorem own_e1 {x y : Int32} (a : ((x &&& (3 : Int32)) % (3 : Int32)) = (0 : Int32)) (b : ((y &&& (3 : Int32)) % (3 : Int32)) = (0 : Int32)) : own_eqc (own_tl x) (own_tl y) = (1 : Int32) := if_pos (by rw [own_tl0 a, own_tl0 b])
theorem own_e2 {x y : Int32} (a : ((x &&& (3 : Int32)) % (3 : Int32)) = (1 : Int32)) (b : ((y &&& (3 : Int32)) % (3 : Int32)) = (1 : Int32)) (f : own_c1 x = own_c1 y) : own_eqc (own_tl x) (own_tl y) = (1 : Int32) := if_pos (by rw [own_tl1 (by rw [a]; decide) a, own_tl1 (by rw [b]; decide) b, f])
theorem own_e3 {x y : Int32} (a : ((x &&& (3 : Int32)) % (3 : Int32)) = (1 : Int32)) (b : ((y &&& (3 : Int32)) % (3 : Int32)) = (1 : Int32)) (f : ¬ (own_c1 x = own_c1 y)) : own_eqc (own_tl x) (own_tl y) = (0 : Int32) := if_neg (by rw [own_tl1 (by rw [a]; decide) a, own_tl1 (by rw [b]; decide) b]; simpa using f)
theorem own_e4 {x y : Int32} (a : ((x &&& (3 : Int32)) % (3 : Int32)) = (2 : Int32)) (b : ((y &&& (3 : Int32)) % (3 : Int32)) = (2 : Int32)) (f : own_c1 x = own_c1 y) (g : own_c2 x = own_c2 y) : own_eqc (own_tl x) (own_tl y) = (1 : Int32) := if_pos (by rw [own_tl2 (by rw [a]; decide) (by rw [a]; decide), own_tl2 (by rw [b]; decide) (by rw [b]; decide), f, g])
theorem own_e5 {x y : Int32} (a : ((x &&& (3 : Int32)) % (3 : Int32)) = (2 : Int32)) (b : ((y &&& (3 : Int32)) % (3 : Int32)) = (2 : Int32)) (g : ¬ (own_c2 x = own_c2 y)) : own_eqc (own_tl x) (own_tl y) = (0 : Int32) := if_neg (by rw [own_tl2 (by rw [a]; decide) (by rw [a]; decide), own_tl2 (by rw [b]; decide) (by rw [b]; decide)]; intro e; injection e with _ e; injection e with e; exact g e)
theorem own_e6 {x y : Int32} (a : ((x &&& (3 : Int32)) % (3 : Int32)) = (2 : Int32)) (b : ((y &&& (3 : Int32)) % (3 : Int32)) = (2 : Int32)) (f : ¬ (own_c1 x = own_c1 y)) : own_eqc (own_tl x) (own_tl y) = (0 : Int32) := if_neg (by rw [own_tl2 (by rw [a]; decide) (by rw [a]; decide), own_tl2 (by rw [b]; decide) (by rw [b]; decide)]; intro e; injection e with e; exact f e)
theorem own_same (l : Launch) (Z : State) (a0 : Array Value) (hw : HW a0 Z) (ws : List Jvm.Cond) (p1 p2 : Int32) (h0 : Heap) (n0 : Nat) (O0 : Old Z n0 h0) :
    MF l y17 method_7_code 3 (some .boolean) ws ({ frames := 1, cells := 0, slots := 0, locals := 13 } : Room) Z #[(.int p1), (.int p2)] h0 (own_sameQ p1 p2 h0 n0) := by
  show MF l y17 method_7_code 3 (some .boolean) ws ({ frames := 1, cells := 0, slots := 0, locals := 13 } : Room) Z #[(.int p1), (.int p2)] h0 (fun v h L => v = some (.int (own_eqc (own_tl p1) (own_tl p2))) ∧ Fr n0 L ∧ h = h0)
  rcases Decidable.em (¬ (((p1 &&& (3 : Int32)) % (3 : Int32)) = ((p2 &&& (3 : Int32)) % (3 : Int32)))) with q | q
  · have e : own_eqc (own_tl p1) (own_tl p2) = (0 : Int32) := own_e0 q
    rw [e]
    exact r17_1 l Z a0 hw ws p1 p2 h0 n0 O0 q
  replace q := Decidable.of_not_not q
  rcases own_l3 p1 with a | a | a
  · have e : own_eqc (own_tl p1) (own_tl p2) = (1 : Int32) := own_e1 a (q ▸ a)
    rw [e]
    exact r17_2 l Z a0 hw ws p1 p2 h0 n0 O0 q (by rw [a]; decide) (by rw [a]; decide)
  · by_cases f : (nar .char ((((p1.toUInt32 >>> ((2 : Int32) &&& 31).toUInt32).toInt32) &&& (255 : Int32)).toUInt32.toUInt16.toUInt32.toInt32)) = (nar .char ((((p2.toUInt32 >>> ((2 : Int32) &&& 31).toUInt32).toInt32) &&& (255 : Int32)).toUInt32.toUInt16.toUInt32.toInt32))
    · have e : own_eqc (own_tl p1) (own_tl p2) = (1 : Int32) := own_e2 a (q ▸ a) f
      rw [e]
      exact r17_4 l Z a0 hw ws p1 p2 h0 n0 O0 q (by rw [a]; decide) f (by rw [a]; decide)
    · have e : own_eqc (own_tl p1) (own_tl p2) = (0 : Int32) := own_e3 a (q ▸ a) f
      rw [e]
      exact r17_3 l Z a0 hw ws p1 p2 h0 n0 O0 q (by rw [a]; decide) f
  · by_cases f : (nar .char ((((p1.toUInt32 >>> ((2 : Int32) &&& 31).toUInt32).toInt32) &&& (255 : Int32)).toUInt32.toUInt16.toUInt32.toInt32)) = (nar .char ((((p2.toUInt32 >>> ((2 : Int32) &&& 31).toUInt32).toInt32) &&& (255 : Int32)).toUInt32.toUInt16.toUInt32.toInt32))
    · by_cases g : (nar .char ((((p1.toUInt32 >>> ((10 : Int32) &&& 31).toUInt32).toInt32) &&& (255 : Int32)).toUInt32.toUInt16.toUInt32.toInt32)) = (nar .char ((((p2.toUInt32 >>> ((10 : Int32) &&& 31).toUInt32).toInt32) &&& (255 : Int32)).toUInt32.toUInt16.toUInt32.toInt32))
      · have e : own_eqc (own_tl p1) (own_tl p2) = (1 : Int32) := own_e4 a (q ▸ a) f g
        rw [e]
        exact r17_6 l Z a0 hw ws p1 p2 h0 n0 O0 q (by rw [a]; decide) f (by rw [a]; decide) g
      · have e : own_eqc (own_tl p1) (own_tl p2) = (0 : Int32) := own_e5 a (q ▸ a) g
        rw [e]
        exact r17_5 l Z a0 hw ws p1 p2 h0 n0 O0 q (by rw [a]; decide) f (by rw [a]; decide) g
    · have e : own_eqc (own_tl p1) (own_tl p2) = (0 : Int32) := own_e6 a (q ▸ a) f
      rw [e]
      exact r17_3 l Z a0 hw ws p1 p2 h0 n0 O0 q (by rw [a]; decide) f
theorem pd__II_Z : parseMethodDescriptor "(II)Z" = some ⟨[.int, .int], some .boolean⟩ := by decide +kernel
def lawQ (n0 : Nat) (v : Option Value) (h : Heap) (L : List Loc) : Prop := v = some (.int (1 : Int32)) ∧ Fr n0 L
set_option maxRecDepth 65536 in
set_option maxHeartbeats 40000000 in
theorem law_1 (l : Launch) (Z : State) (a0 : Array Value) (hw : HW a0 Z) (ws : List Jvm.Cond) (zCOMPACT_STRINGS : Int32) (B : Base Z zCOMPACT_STRINGS) (i0 : Int32) (i1 : Int32) (i2 : Int32) (i3 : Int32) (i4 : Int32) (h0 : Heap) (n0 : Nat) (O0 : Old Z n0 h0) (hc1 : ¬ ((i4 &&& (1 : Int32)) = (0 : Int32))) (hc2 : ¬ ((i4 &&& (2 : Int32)) = (0 : Int32))) (hc44 : ¬ ((own_eqc (own_tl i0) (own_tl i0)) = (0 : Int32))) (hc51 : ¬ ((own_eqc (own_tl i2) (own_tl i2)) = (0 : Int32))) :
    MFH l x code maxLocals ret ws room_1 Z #[(.int i0), (.int i1), (.int i2), (.int i3), (.int i4)] h0 (lawQ n0) := by
  refine own_inH (plainFor_of_name pn_com_example_agave_agave_store_StoredRequestIsSameRequestPinLaw) #[iv i0, iv i1, iv i2, iv i3, iv i4, un, un, un, un, un, un] (fun _ => by first | (simp [entryFrame, mkF, argsToLocals, Value.category, maxLocals]; done) | rfl) ?_
  intro p e s m below meth c s₁ Bd hx hby hml hown hnm hZ hh C0 e0 X0
  have N0 := Fr.nil n0
  obtain ⟨B0, B1⟩ := B
  obtain ⟨T3, h3, X3, e3, E3, A3, D3, -, st3⟩ := newO X0 hx hZ hown (ow hw 0 rfl) (ow hw 1 rfl) (ow hw 2 rfl) e0 (g := (mkF m 28 #[iv i0, iv i1, iv i2, iv i3, iv i4, iv i0, iv i2, un, un, un, un] [])) rfl (hb hby at_28) (by decide) (by decide)
  obtain ⟨b3, g3⟩ : ∃ z, z = h0.size := ⟨_, rfl⟩
  rw [← g3] at A3 D3 st3
  have O_E3 : Old Z n0 h3 := O0.ext E3
  have Kp_E3 : Keep h0 h3 [] := (Keep.refl h0 []).ext E3
  have c_E3 := CHr.ext E3 C0.1
  have C_E3 := C0.trans c_E3
  obtain ⟨T5, Lc5, _, X5, hSq5, hg5, Cq5, hQ5, st5⟩ := flH X3 (Jvm.RoadKit.callSS X3 hx (y := y0) hown (mvT hZ (ow hw 3 rfl)) (mvT hZ (ow hw 4 rfl)) (mvT hZ (ow hw 5 rfl)) (mvT hZ (ow hw 6 rfl)) (by decide) (backOfSH (s := s) (vm0 := s.vm) (W := 2) (own_text l Z a0 hw [] i0 zCOMPACT_STRINGS h3 n0 O_E3 B0 B1) hZ (ow hw 6 rfl) (ow hw 5 rfl) (by decide) (by decide) (own_EW hw) C_E3.1) (g := (mkF m 33 #[iv i0, iv i1, iv i2, iv i3, iv i4, iv i0, iv i2, un, un, un, un] [(.int i0), (.ref b3), (.ref b3)])) rfl (by rw [hml]; rfl) (argsL := [(.int i0)]) (rest := [(.ref b3), (.ref b3)]) (lenOf pd__I_Ljava_lang_String_ rfl) rfl wf (hb hby at_33) (fun _ _ => ⟨rfl, e3, (by decide : 1 + 6 ≤ _), (by decide : 5 + 12 ≤ _)⟩))
  obtain ⟨Y5, hS5, hZ5, hown5⟩ := rebS (s := s) (vm0 := s.vm) (State.WarmedH.since (State.WarmedH.refl s) 0) (by rw [e3]; exact (Nat.zero_le _)) X5 hSq5 hg5 hZ hown
  obtain ⟨b5_0, b5_1, k5_0, rfl, N5q, K5, lo5_1, f5_2, f5_3, f5_4, f5_5⟩ := hQ5
  have N5 := Fr.app N0 N5q
  have O_K5 : Old Z n0 T5.heap := O_E3.keep K5 all0
  have Kp_K5 : Keep h0 T5.heap [] := Kp_E3.trans K5 all0
  have c_K5 := Cq5
  have C_K5 := C_E3.trans c_K5
  have f6 := (A3.keep K5)
  have ne7 := Exa.neArv f6 f5_5 (ow hw 1 rfl)
  obtain ⟨T8, Lc8, _, X8, hSq8, hg8, Cq8, hQ8, st8⟩ := flH Y5 (Jvm.RoadKit.callSS Y5 hx (y := y0) hown5 (mvT hZ5 (ow hw 3 rfl)) (mvT hZ5 (ow hw 4 rfl)) (mvT hZ5 (ow hw 5 rfl)) (mvT hZ5 (ow hw 6 rfl)) (by decide) (backOfSH (s := s) (vm0 := T5.vm) (W := 3) (own_text l Z a0 hw [] i2 zCOMPACT_STRINGS T5.heap n0 O_K5 B0 B1) hZ5 (ow hw 6 rfl) (ow hw 5 rfl) (by decide) (by decide) (own_EW hw) C_K5.1) (g := (mkF m 37 #[iv i0, iv i1, iv i2, iv i3, iv i4, iv i0, iv i2, un, un, un, un] [(.int i2), (.ref b5_0), (.ref b3), (.ref b3)])) rfl (by rw [hml]; rfl) (argsL := [(.int i2)]) (rest := [(.ref b5_0), (.ref b3), (.ref b3)]) (lenOf pd__I_Ljava_lang_String_ rfl) rfl wf (hb hby at_37) (fun _ _ => ⟨rfl, rfl, (by decide : 7 + 6 ≤ _), (by decide : 17 + 12 ≤ _)⟩))
  obtain ⟨Y8, hS8, hZ8, hown8⟩ := rebS (s := s) (vm0 := T5.vm) hS5 (Nat.le_refl _) X8 hSq8 hg8 hZ5 hown5
  obtain ⟨b8_0, b8_1, k8_0, rfl, N8q, K8, lo8_1, f8_2, f8_3, f8_4, f8_5⟩ := hQ8
  have N8 := Fr.app N5 N8q
  have O_K8 : Old Z n0 T8.heap := O_K5.keep K8 all0
  have Kp_K8 : Keep h0 T8.heap [] := Kp_K5.trans K8 all0
  have c_K8 := Cq8
  have C_K8 := C_K5.trans c_K8
  have f9 := (f5_2.keep K8)
  have ne10 := Exa.neArv f9 f8_5 (ow hw 11 rfl)
  have f11 := (f6.keep K8)
  have ne12 := Exa.neArv f11 f8_5 (ow hw 1 rfl)
  have f13 : xF5 Z h3 b3 .null := D3 (Or.inr (ow hw 59 rfl)) (ty := (.object "java/lang/String")) (by decide)
  have f14 := ((f13.keep K5 nin0).keep K8 nin0)
  have g15 : n0 ≤ b3 := Nat.le_trans (Nat.le_trans (Nat.le_of_eq O0.1.symm) O0.2.1) (Nat.le_of_eq g3.symm)
  have f16 : xF7 Z h3 b3 .null := D3 (Or.inr (ow hw 61 rfl)) (ty := (.object "java/lang/String")) (by decide)
  have f17 := ((f16.keep K5 nin0).keep K8 nin0)
  have f18 : xF8 Z h3 b3 .null := D3 (Or.inr (ow hw 63 rfl)) (ty := (.object "java/util/Optional")) (by decide)
  have f19 := ((f18.keep K5 nin0).keep K8 nin0)
  have f20 : xF9 Z h3 b3 .null := D3 (Or.inr (ow hw 65 rfl)) (ty := (.object "java/util/Optional")) (by decide)
  have f21 := ((f20.keep K5 nin0).keep K8 nin0)
  have f22 : xF10 Z h3 b3 .null := D3 (Or.inr (ow hw 67 rfl)) (ty := (.object "java/util/Optional")) (by decide)
  have f23 := ((f22.keep K5 nin0).keep K8 nin0)
  obtain ⟨T24, Lc24, _, X24, hQ24, st24⟩ := fl Y8 (Y8.specialBack hx (y := y13) rfl hown8 (mvT hZ8 (ow hw 49 rfl)) (mvT hZ8 (ow hw 50 rfl)) (mvT hZ8 (ow hw 51 rfl)) (by decide) (backOf (W := 1) (r13_1 l Z a0 hw [] b3 b5_0 b8_0 T8.heap n0 O_K8 f14 f11 g15 f17 f19 f21 f23) hZ8 (ow hw 51 rfl) (ow hw 2 rfl) (by decide) (by decide)) (g := (mkF m 43 #[iv i0, iv i1, iv i2, iv i3, iv i4, iv i0, iv i2, un, un, un, un] [.null, .null, .null, (.ref b8_0), (.ref b5_0), (.ref b3), (.ref b3)])) rfl (by rw [hml]; rfl) (Steps.refl _) (a := b3) (argsL := [(.ref b5_0), (.ref b8_0), .null, .null, .null]) (rest := [(.ref b3)]) (lenOf pd__Ljava_lang_String_Ljava_lang_String_Ljava_util_Optional_Ljava_util_Optional_Ljava_util_Optional__V rfl) rfl wf (hb hby at_43) (fun _ _ => ⟨rfl, rfl, (by decide : 13 + 0 ≤ _), (by decide : 29 + 0 ≤ _)⟩))
  obtain ⟨rfl, N24q, K24, f24_1, f24_2, f24_3, f24_4, f24_5, f24_6⟩ := hQ24
  have N24 := Fr.app N8 N24q
  have sf25 := (c_K8.safe (A3.keep K5).lt (c_K5.safe A3.lt (Safe.ext E3 C0.1 (Safe.new (Nat.le_of_eq g3.symm)))))
  have z26 : h0.size ≤ b3 := Nat.le_trans (Keep.refl h0 []).1 (Nat.le_of_eq g3.symm)
  have O_K24 : Old Z n0 T24.heap := O_K8.keep K24 (allS g15 all0)
  have Kp_K24 : Keep h0 T24.heap [] := Kp_K8.trans K24 (allS (Or.inr z26) all0)
  have c_K24 := CHr.keep K24 (allS sf25 all0) C_K8.1
  have C_K24 := C_K8.trans c_K24
  obtain ⟨T27, Lc27, _, X27, hSq27, hg27, Cq27, hQ27, st27⟩ := flH X24 (Jvm.RoadKit.callSS X24 hx (y := y0) hown8 (mvT hZ8 (ow hw 3 rfl)) (mvT hZ8 (ow hw 4 rfl)) (mvT hZ8 (ow hw 5 rfl)) (mvT hZ8 (ow hw 6 rfl)) (by decide) (backOfSH (s := s) (vm0 := T8.vm) (W := 1) (own_text l Z a0 hw [] i0 zCOMPACT_STRINGS T24.heap n0 O_K24 B0 B1) hZ8 (ow hw 6 rfl) (ow hw 5 rfl) (by decide) (by decide) (own_EW hw) C_K24.1) (g := (mkF m 52 #[iv i0, iv i1, iv i2, iv i3, iv i4, iv i0, iv i2, rv b3, un, un, un] [(.int i0), (.ref b3)])) rfl (by rw [hml]; rfl) (argsL := [(.int i0)]) (rest := [(.ref b3)]) (lenOf pd__I_Ljava_lang_String_ rfl) rfl wf (hb hby at_52) (fun _ _ => ⟨rfl, rfl, (by decide : 13 + 6 ≤ _), (by decide : 29 + 12 ≤ _)⟩))
  obtain ⟨Y27, hS27, hZ27, hown27⟩ := rebS (s := s) (vm0 := T8.vm) hS8 (Nat.le_trans (Nat.le_refl _) K24.1) X27 hSq27 hg27 hZ8 hown8
  obtain ⟨b27_0, b27_1, k27_0, rfl, N27q, K27, lo27_1, f27_2, f27_3, f27_4, f27_5⟩ := hQ27
  have N27 := Fr.app N24 N27q
  have O_K27 : Old Z n0 T27.heap := O_K24.keep K27 all0
  have Kp_K27 : Keep h0 T27.heap [] := Kp_K24.trans K27 all0
  have c_K27 := Cq27
  have C_K27 := C_K24.trans c_K27
  have f28 := (f24_2.keep K27)
  have ne29 := Exa.neArv f28 f27_5 (ow hw 1 rfl)
  obtain ⟨T30, Lc30, _, X30, hSq30, hg30, Cq30, hQ30, st30⟩ := flH Y27 (Jvm.RoadKit.callSS Y27 hx (y := y0) hown27 (mvT hZ27 (ow hw 3 rfl)) (mvT hZ27 (ow hw 4 rfl)) (mvT hZ27 (ow hw 5 rfl)) (mvT hZ27 (ow hw 6 rfl)) (by decide) (backOfSH (s := s) (vm0 := T27.vm) (W := 2) (own_text l Z a0 hw [] i2 zCOMPACT_STRINGS T27.heap n0 O_K27 B0 B1) hZ27 (ow hw 6 rfl) (ow hw 5 rfl) (by decide) (by decide) (own_EW hw) C_K27.1) (g := (mkF m 57 #[iv i0, iv i1, iv i2, iv i3, iv i4, iv i0, iv i2, rv b3, un, un, un] [(.int i2), (.ref b27_0), (.ref b3)])) rfl (by rw [hml]; rfl) (argsL := [(.int i2)]) (rest := [(.ref b27_0), (.ref b3)]) (lenOf pd__I_Ljava_lang_String_ rfl) rfl wf (hb hby at_57) (fun _ _ => ⟨rfl, rfl, (by decide : 19 + 6 ≤ _), (by decide : 41 + 12 ≤ _)⟩))
  obtain ⟨Y30, hS30, hZ30, hown30⟩ := rebS (s := s) (vm0 := T27.vm) hS27 (Nat.le_refl _) X30 hSq30 hg30 hZ27 hown27
  obtain ⟨b30_0, b30_1, k30_0, rfl, N30q, K30, lo30_1, f30_2, f30_3, f30_4, f30_5⟩ := hQ30
  have N30 := Fr.app N27 N30q
  have O_K30 : Old Z n0 T30.heap := O_K27.keep K30 all0
  have Kp_K30 : Keep h0 T30.heap [] := Kp_K27.trans K30 all0
  have c_K30 := Cq30
  have C_K30 := C_K27.trans c_K30
  have f31 := (f28.keep K30)
  have ne32 := Exa.neArv f31 f30_5 (ow hw 1 rfl)
  have f33 := (f27_2.keep K30)
  have ne34 := Exa.neArv f33 f30_5 (ow hw 11 rfl)
  have f35 := ((f24_1.keep K27 nin0).keep K30 nin0)
  have f36 := (((f9.keep K24).keep K27).keep K30)
  have ne37 : b3 ≠ b5_0 := Nat.ne_of_lt (Nat.lt_of_lt_of_le A3.lt lo5_1)
  have f38 := ((((f5_3.keep K8 nin0).keep K24 (ninS (Ne.symm ne37) nin0)).keep K27 nin0).keep K30 nin0)
  have f39 := ((((f5_4.keep K8 nin0).keep K24 (ninS (Ne.symm ne37) nin0)).keep K27 nin0).keep K30 nin0)
  have f40 := ((((f5_5.keep K8 nin0).keep K24 (ninS (Ne.symm ne7) nin0)).keep K27 nin0).keep K30 nin0)
  have f41 := (f27_3.keep K30 nin0)
  have f42 := (f27_4.keep K30 nin0)
  have f43 := (f27_5.keep K30 nin0)
  have f45 := ((f24_3.keep K27 nin0).keep K30 nin0)
  have f46 := (((f8_2.keep K24).keep K27).keep K30)
  have ne47 : b3 ≠ b8_0 := Nat.ne_of_lt (Nat.lt_of_lt_of_le (A3.keep K5).lt lo8_1)
  have f48 := (((f8_3.keep K24 (ninS (Ne.symm ne47) nin0)).keep K27 nin0).keep K30 nin0)
  have f49 := (((f8_4.keep K24 (ninS (Ne.symm ne47) nin0)).keep K27 nin0).keep K30 nin0)
  have f50 := (((f8_5.keep K24 (ninS (Ne.symm ne12) nin0)).keep K27 nin0).keep K30 nin0)
  obtain ⟨cq52, kq52, q52a, q52b, q52c⟩ := isOf hZ30 rfl f31
  obtain ⟨T52, Lc52, _, X52, hSq52, hg52, Cq52, hQ52, st52⟩ := flH Y30 (Y30.virtualBackS hx (y := y15) (z := y15) hown30 (mvT hZ30 (ow hw 82 rfl)) (mvT hZ30 (ow hw 83 rfl)) (notFace_of_selects (args := #[]) (mvT hZ30 (ow hw 85 rfl))) (mvT hZ30 (ow hw 85 rfl)) (mvT hZ30 (ow hw 84 rfl)) (by decide) (backOfSH (s := s) (vm0 := T30.vm) (W := 0) (r15_1 l Z a0 hw [] b3 b27_0 b30_0 b5_0 b5_1 k5_0 (own_tl i0) b27_1 k27_0 (own_tl i0) zCOMPACT_STRINGS b8_0 b8_1 k8_0 (own_tl i2) b30_1 k30_0 (own_tl i2) T30.heap n0 O_K30 f35 f36 f38 f39 f40 (own_gt _) f33 f41 f42 f43 (own_gt _) B0 B1 hc44 f45 f46 f48 f49 f50 (own_gt _) f30_2 f30_3 f30_4 f30_5 (own_gt _) hc51) hZ30 (ow hw 86 rfl) (ow hw 2 rfl) (by decide) (by decide) (own_EW hw) C_K30.1) q52a q52c (g := (mkF m 60 #[iv i0, iv i1, iv i2, iv i3, iv i4, iv i0, iv i2, rv b3, un, un, un] [(.ref b30_0), (.ref b27_0), (.ref b3)])) rfl (by rw [hml]; rfl) (Steps.refl _) (argsL := [(.ref b27_0), (.ref b30_0)]) (rest := []) (lenOf pd__Ljava_lang_String_Ljava_lang_String__Z rfl) rfl wf (hb hby at_60) (fun _ _ => ⟨rfl, rfl, (by decide : 25 + 0 ≤ _), (by decide : 53 + 0 ≤ _)⟩))
  obtain ⟨Y52, hS52, hZ52, hown52⟩ := rebS (s := s) (vm0 := T30.vm) hS30 (Nat.le_refl _) X52 hSq52 hg52 hZ30 hown30
  obtain ⟨rfl, N52q, K52⟩ := hQ52
  have N52 := Fr.app N30 N52q
  have O_K52 : Old Z n0 T52.heap := O_K30.keep K52 all0
  have Kp_K52 : Keep h0 T52.heap [] := Kp_K30.trans K52 all0
  have c_K52 := Cq52
  have C_K52 := C_K30.trans c_K52
  obtain ⟨T53, Lc53, _, X53, hQ53, st53⟩ := flC Y52 (Jvm.LawKit.callS Y52 hx (y := y17) hown52 (mvT hZ52 (ow hw 95 rfl)) (mvT hZ52 (ow hw 96 rfl)) (mvT hZ52 (ow hw 5 rfl)) (mvT hZ52 (ow hw 97 rfl)) (by decide) (backOf (W := 0) (own_same l Z a0 hw [] i0 i0 T52.heap n0 O_K52) hZ52 (ow hw 97 rfl) (ow hw 5 rfl) (by decide) (by decide)) (g := (mkF m 68 #[iv i0, iv i1, iv i2, iv i3, iv i4, iv i0, iv i2, rv b3, iv (1 : Int32), un, un] [(.int i0), (.int i0)])) rfl (by rw [hml]; rfl) (argsL := [(.int i0), (.int i0)]) (rest := []) (lenOf pd__II_Z rfl) rfl wf (hb hby at_68) (fun _ _ => ⟨rfl, rfl, (by decide : 25 + 0 ≤ _), (by decide : 53 + 0 ≤ _)⟩))
  obtain ⟨rfl, N53q, e53⟩ := hQ53
  have N53 := Fr.app N52 N53q
  obtain ⟨T54, Lc54, _, X54, hQ54, st54⟩ := flC X53 (Jvm.LawKit.callS X53 hx (y := y17) hown52 (mvT hZ52 (ow hw 95 rfl)) (mvT hZ52 (ow hw 96 rfl)) (mvT hZ52 (ow hw 5 rfl)) (mvT hZ52 (ow hw 97 rfl)) (by decide) (backOf (W := 0) (own_same l Z a0 hw [] i2 i2 T52.heap n0 O_K52) hZ52 (ow hw 97 rfl) (ow hw 5 rfl) (by decide) (by decide)) (g := (mkF m 96 #[iv i0, iv i1, iv i2, iv i3, iv i4, iv i0, iv i2, rv b3, iv (1 : Int32), iv (1 : Int32), un] [(.int i2), (.int i2)])) rfl (by rw [hml]; rfl) (argsL := [(.int i2), (.int i2)]) (rest := []) (lenOf pd__II_Z rfl) rfl wf (hb hby at_96) (fun _ _ => ⟨rfl, e53, (by decide : 25 + 0 ≤ _), (by decide : 53 + 0 ≤ _)⟩))
  obtain ⟨rfl, N54q, e54⟩ := hQ54
  have N54 := Fr.app N53 N54q
  refine finH (Q := lawQ n0) (rm := room_1) (vm := T52.vm) Bd X54 hZ52 (own_EW hw) C_K52 hh e54 hS52 (Nat.le_refl _) (some (.int (1 : Int32))) nofun ⟨rfl, N54⟩ (by decide) (by decide) fun fs hr => ?_
  show St p e below s₁ m 0 #[iv i0, iv i1, iv i2, iv i3, iv i4, un, un, un, un, un, un] [] _
  refine XS.iload X0.here hx rfl (hb hby at_0) rfl ?_
  refine XS.iconst X0.here hx rfl (hb hby at_2) ?_
  refine XS.iand X0.here hx rfl (hb hby at_3) rfl ?_
  refine XS.ifNo X0.here hx rfl (hb hby at_4) rfl ((if0 _ _).trans (feq hc1).1) ?_
  refine XS.iloadN X0.here hx rfl (hb hby at_7) rfl ?_
  refine XS.goto X0.here hx rfl (pc0 := 8) (pc' := 12) rfl (hb hby at_8) (by decide) (by decide) ?_
  refine XS.istore X0.here hx rfl (hb hby at_12) rfl (l' := #[iv i0, iv i1, iv i2, iv i3, iv i4, iv i0, un, un, un, un, un]) rfl ?_
  refine XS.iload X0.here hx rfl (hb hby at_14) rfl ?_
  refine XS.iconst X0.here hx rfl (hb hby at_16) ?_
  refine XS.iand X0.here hx rfl (hb hby at_17) rfl ?_
  refine XS.ifNo X0.here hx rfl (hb hby at_18) rfl ((if0 _ _).trans (feq hc2).1) ?_
  refine XS.iloadN X0.here hx rfl (hb hby at_21) rfl ?_
  refine XS.goto X0.here hx rfl (pc0 := 22) (pc' := 26) rfl (hb hby at_22) (by decide) (by decide) ?_
  refine XS.istore X0.here hx rfl (hb hby at_26) rfl (l' := #[iv i0, iv i1, iv i2, iv i3, iv i4, iv i0, iv i2, un, un, un, un]) rfl ?_
  refine st3 _ ?_
  refine XS.dup X3.here hx rfl (hb hby at_31) rfl rfl ?_
  refine XS.iloadN X3.here hx rfl (hb hby at_32) rfl ?_
  refine st5.trans ?_
  refine XS.iloadN Y5.here hx rfl (hb hby at_36) rfl ?_
  refine st8.trans ?_
  refine XS.aconstNull Y8.here hx rfl (hb hby at_40) ?_
  refine XS.aconstNull Y8.here hx rfl (hb hby at_41) ?_
  refine XS.aconstNull Y8.here hx rfl (hb hby at_42) ?_
  refine st24.trans ?_
  refine XS.astore X24.here hx rfl (hb hby at_46) rfl rfl (l' := #[iv i0, iv i1, iv i2, iv i3, iv i4, iv i0, iv i2, rv b3, un, un, un]) rfl ?_
  show St p e below T24 m 48 #[iv i0, iv i1, iv i2, iv i3, iv i4, iv i0, iv i2, rv b3, un, un, un] [] _
  refine XS.aload X24.here hx rfl (hb hby at_48) rfl rfl ?_
  refine XS.iload X24.here hx rfl (hb hby at_50) rfl ?_
  refine st27.trans ?_
  refine XS.iload Y27.here hx rfl (hb hby at_55) rfl ?_
  refine st30.trans ?_
  refine st52.trans ?_
  refine XS.istore Y52.here hx rfl (hb hby at_63) rfl (l' := #[iv i0, iv i1, iv i2, iv i3, iv i4, iv i0, iv i2, rv b3, iv (1 : Int32), un, un]) rfl ?_
  refine XS.iloadN Y52.here hx rfl (hb hby at_65) rfl ?_
  refine XS.iload Y52.here hx rfl (hb hby at_66) rfl ?_
  refine st53 _ ?_
  refine XS.ifYes X53.here hx rfl (pc0 := 71) (pc' := 81) rfl (hb hby at_71) rfl ((if0 _ _).trans (feq hc44).2) (by decide) (by decide) ?_
  refine XS.iconst X53.here hx rfl (hb hby at_81) ?_
  refine XS.goto X53.here hx rfl (pc0 := 82) (pc' := 86) rfl (hb hby at_82) (by decide) (by decide) ?_
  refine XS.istore X53.here hx rfl (hb hby at_86) rfl (l' := #[iv i0, iv i1, iv i2, iv i3, iv i4, iv i0, iv i2, rv b3, iv (1 : Int32), iv (1 : Int32), un]) rfl ?_
  refine XS.iload X53.here hx rfl (hb hby at_88) rfl ?_
  refine XS.ifNo X53.here hx rfl (hb hby at_90) rfl ((if0 _ _).trans (feq (by decide : ¬ ((1 : Int32) = (0 : Int32)))).1) ?_
  refine XS.iloadN X53.here hx rfl (hb hby at_93) rfl ?_
  refine XS.iload X53.here hx rfl (hb hby at_94) rfl ?_
  refine st54 _ ?_
  refine XS.ifNo X54.here hx rfl (hb hby at_99) rfl ((if0 _ _).trans (feq hc51).1) ?_
  refine XS.iconst X54.here hx rfl (hb hby at_102) ?_
  refine XS.goto X54.here hx rfl (pc0 := 103) (pc' := 107) rfl (hb hby at_103) (by decide) (by decide) ?_
  refine XS.istore X54.here hx rfl (hb hby at_107) rfl (l' := #[iv i0, iv i1, iv i2, iv i3, iv i4, iv i0, iv i2, rv b3, iv (1 : Int32), iv (1 : Int32), iv (1 : Int32)]) rfl ?_
  refine XS.iload X54.here hx rfl (hb hby at_109) rfl ?_
  refine XS.iload X54.here hx rfl (hb hby at_111) rfl ?_
  show St p e below T54 m 113 #[iv i0, iv i1, iv i2, iv i3, iv i4, iv i0, iv i2, rv b3, iv (1 : Int32), iv (1 : Int32), iv (1 : Int32)] [(.int (1 : Int32)), (.int (1 : Int32))] _
  refine XS.icmpNo X54.here hx rfl (hb hby at_113) rfl (teq (rfl : (1 : Int32) = (1 : Int32))).2 ?_
  refine XS.iconst X54.here hx rfl (hb hby at_116) ?_
  refine XS.goto X54.here hx rfl (pc0 := 117) (pc' := 121) rfl (hb hby at_117) (by decide) (by decide) ?_
  exact retN X54 hx (t := .boolean) Bd.returns (by simp) (hb hby at_121) hr
set_option maxRecDepth 65536 in
set_option maxHeartbeats 40000000 in
theorem law_2 (l : Launch) (Z : State) (a0 : Array Value) (hw : HW a0 Z) (ws : List Jvm.Cond) (zCOMPACT_STRINGS : Int32) (B : Base Z zCOMPACT_STRINGS) (i0 : Int32) (i1 : Int32) (i2 : Int32) (i3 : Int32) (i4 : Int32) (h0 : Heap) (n0 : Nat) (O0 : Old Z n0 h0) (hc1 : ¬ ((i4 &&& (1 : Int32)) = (0 : Int32))) (hc2 : (i4 &&& (2 : Int32)) = (0 : Int32)) (hc44 : ¬ ((own_eqc (own_tl i0) (own_tl i0)) = (0 : Int32))) (hc51 : ¬ ((own_eqc (own_tl i2) (own_tl i3)) = (0 : Int32))) :
    MFH l x code maxLocals ret ws room_1 Z #[(.int i0), (.int i1), (.int i2), (.int i3), (.int i4)] h0 (lawQ n0) := by
  refine own_inH (plainFor_of_name pn_com_example_agave_agave_store_StoredRequestIsSameRequestPinLaw) #[iv i0, iv i1, iv i2, iv i3, iv i4, un, un, un, un, un, un] (fun _ => by first | (simp [entryFrame, mkF, argsToLocals, Value.category, maxLocals]; done) | rfl) ?_
  intro p e s m below meth c s₁ Bd hx hby hml hown hnm hZ hh C0 e0 X0
  have N0 := Fr.nil n0
  obtain ⟨B0, B1⟩ := B
  obtain ⟨T3, h3, X3, e3, E3, A3, D3, -, st3⟩ := newO X0 hx hZ hown (ow hw 0 rfl) (ow hw 1 rfl) (ow hw 2 rfl) e0 (g := (mkF m 28 #[iv i0, iv i1, iv i2, iv i3, iv i4, iv i0, iv i3, un, un, un, un] [])) rfl (hb hby at_28) (by decide) (by decide)
  obtain ⟨b3, g3⟩ : ∃ z, z = h0.size := ⟨_, rfl⟩
  rw [← g3] at A3 D3 st3
  have O_E3 : Old Z n0 h3 := O0.ext E3
  have Kp_E3 : Keep h0 h3 [] := (Keep.refl h0 []).ext E3
  have c_E3 := CHr.ext E3 C0.1
  have C_E3 := C0.trans c_E3
  obtain ⟨T5, Lc5, _, X5, hSq5, hg5, Cq5, hQ5, st5⟩ := flH X3 (Jvm.RoadKit.callSS X3 hx (y := y0) hown (mvT hZ (ow hw 3 rfl)) (mvT hZ (ow hw 4 rfl)) (mvT hZ (ow hw 5 rfl)) (mvT hZ (ow hw 6 rfl)) (by decide) (backOfSH (s := s) (vm0 := s.vm) (W := 2) (own_text l Z a0 hw [] i0 zCOMPACT_STRINGS h3 n0 O_E3 B0 B1) hZ (ow hw 6 rfl) (ow hw 5 rfl) (by decide) (by decide) (own_EW hw) C_E3.1) (g := (mkF m 33 #[iv i0, iv i1, iv i2, iv i3, iv i4, iv i0, iv i3, un, un, un, un] [(.int i0), (.ref b3), (.ref b3)])) rfl (by rw [hml]; rfl) (argsL := [(.int i0)]) (rest := [(.ref b3), (.ref b3)]) (lenOf pd__I_Ljava_lang_String_ rfl) rfl wf (hb hby at_33) (fun _ _ => ⟨rfl, e3, (by decide : 1 + 6 ≤ _), (by decide : 5 + 12 ≤ _)⟩))
  obtain ⟨Y5, hS5, hZ5, hown5⟩ := rebS (s := s) (vm0 := s.vm) (State.WarmedH.since (State.WarmedH.refl s) 0) (by rw [e3]; exact (Nat.zero_le _)) X5 hSq5 hg5 hZ hown
  obtain ⟨b5_0, b5_1, k5_0, rfl, N5q, K5, lo5_1, f5_2, f5_3, f5_4, f5_5⟩ := hQ5
  have N5 := Fr.app N0 N5q
  have O_K5 : Old Z n0 T5.heap := O_E3.keep K5 all0
  have Kp_K5 : Keep h0 T5.heap [] := Kp_E3.trans K5 all0
  have c_K5 := Cq5
  have C_K5 := C_E3.trans c_K5
  have f6 := (A3.keep K5)
  have ne7 := Exa.neArv f6 f5_5 (ow hw 1 rfl)
  obtain ⟨T8, Lc8, _, X8, hSq8, hg8, Cq8, hQ8, st8⟩ := flH Y5 (Jvm.RoadKit.callSS Y5 hx (y := y0) hown5 (mvT hZ5 (ow hw 3 rfl)) (mvT hZ5 (ow hw 4 rfl)) (mvT hZ5 (ow hw 5 rfl)) (mvT hZ5 (ow hw 6 rfl)) (by decide) (backOfSH (s := s) (vm0 := T5.vm) (W := 3) (own_text l Z a0 hw [] i2 zCOMPACT_STRINGS T5.heap n0 O_K5 B0 B1) hZ5 (ow hw 6 rfl) (ow hw 5 rfl) (by decide) (by decide) (own_EW hw) C_K5.1) (g := (mkF m 37 #[iv i0, iv i1, iv i2, iv i3, iv i4, iv i0, iv i3, un, un, un, un] [(.int i2), (.ref b5_0), (.ref b3), (.ref b3)])) rfl (by rw [hml]; rfl) (argsL := [(.int i2)]) (rest := [(.ref b5_0), (.ref b3), (.ref b3)]) (lenOf pd__I_Ljava_lang_String_ rfl) rfl wf (hb hby at_37) (fun _ _ => ⟨rfl, rfl, (by decide : 7 + 6 ≤ _), (by decide : 17 + 12 ≤ _)⟩))
  obtain ⟨Y8, hS8, hZ8, hown8⟩ := rebS (s := s) (vm0 := T5.vm) hS5 (Nat.le_refl _) X8 hSq8 hg8 hZ5 hown5
  obtain ⟨b8_0, b8_1, k8_0, rfl, N8q, K8, lo8_1, f8_2, f8_3, f8_4, f8_5⟩ := hQ8
  have N8 := Fr.app N5 N8q
  have O_K8 : Old Z n0 T8.heap := O_K5.keep K8 all0
  have Kp_K8 : Keep h0 T8.heap [] := Kp_K5.trans K8 all0
  have c_K8 := Cq8
  have C_K8 := C_K5.trans c_K8
  have f9 := (f5_2.keep K8)
  have ne10 := Exa.neArv f9 f8_5 (ow hw 11 rfl)
  have f11 := (f6.keep K8)
  have ne12 := Exa.neArv f11 f8_5 (ow hw 1 rfl)
  have f13 : xF5 Z h3 b3 .null := D3 (Or.inr (ow hw 59 rfl)) (ty := (.object "java/lang/String")) (by decide)
  have f14 := ((f13.keep K5 nin0).keep K8 nin0)
  have g15 : n0 ≤ b3 := Nat.le_trans (Nat.le_trans (Nat.le_of_eq O0.1.symm) O0.2.1) (Nat.le_of_eq g3.symm)
  have f16 : xF7 Z h3 b3 .null := D3 (Or.inr (ow hw 61 rfl)) (ty := (.object "java/lang/String")) (by decide)
  have f17 := ((f16.keep K5 nin0).keep K8 nin0)
  have f18 : xF8 Z h3 b3 .null := D3 (Or.inr (ow hw 63 rfl)) (ty := (.object "java/util/Optional")) (by decide)
  have f19 := ((f18.keep K5 nin0).keep K8 nin0)
  have f20 : xF9 Z h3 b3 .null := D3 (Or.inr (ow hw 65 rfl)) (ty := (.object "java/util/Optional")) (by decide)
  have f21 := ((f20.keep K5 nin0).keep K8 nin0)
  have f22 : xF10 Z h3 b3 .null := D3 (Or.inr (ow hw 67 rfl)) (ty := (.object "java/util/Optional")) (by decide)
  have f23 := ((f22.keep K5 nin0).keep K8 nin0)
  obtain ⟨T24, Lc24, _, X24, hQ24, st24⟩ := fl Y8 (Y8.specialBack hx (y := y13) rfl hown8 (mvT hZ8 (ow hw 49 rfl)) (mvT hZ8 (ow hw 50 rfl)) (mvT hZ8 (ow hw 51 rfl)) (by decide) (backOf (W := 1) (r13_1 l Z a0 hw [] b3 b5_0 b8_0 T8.heap n0 O_K8 f14 f11 g15 f17 f19 f21 f23) hZ8 (ow hw 51 rfl) (ow hw 2 rfl) (by decide) (by decide)) (g := (mkF m 43 #[iv i0, iv i1, iv i2, iv i3, iv i4, iv i0, iv i3, un, un, un, un] [.null, .null, .null, (.ref b8_0), (.ref b5_0), (.ref b3), (.ref b3)])) rfl (by rw [hml]; rfl) (Steps.refl _) (a := b3) (argsL := [(.ref b5_0), (.ref b8_0), .null, .null, .null]) (rest := [(.ref b3)]) (lenOf pd__Ljava_lang_String_Ljava_lang_String_Ljava_util_Optional_Ljava_util_Optional_Ljava_util_Optional__V rfl) rfl wf (hb hby at_43) (fun _ _ => ⟨rfl, rfl, (by decide : 13 + 0 ≤ _), (by decide : 29 + 0 ≤ _)⟩))
  obtain ⟨rfl, N24q, K24, f24_1, f24_2, f24_3, f24_4, f24_5, f24_6⟩ := hQ24
  have N24 := Fr.app N8 N24q
  have sf25 := (c_K8.safe (A3.keep K5).lt (c_K5.safe A3.lt (Safe.ext E3 C0.1 (Safe.new (Nat.le_of_eq g3.symm)))))
  have z26 : h0.size ≤ b3 := Nat.le_trans (Keep.refl h0 []).1 (Nat.le_of_eq g3.symm)
  have O_K24 : Old Z n0 T24.heap := O_K8.keep K24 (allS g15 all0)
  have Kp_K24 : Keep h0 T24.heap [] := Kp_K8.trans K24 (allS (Or.inr z26) all0)
  have c_K24 := CHr.keep K24 (allS sf25 all0) C_K8.1
  have C_K24 := C_K8.trans c_K24
  obtain ⟨T27, Lc27, _, X27, hSq27, hg27, Cq27, hQ27, st27⟩ := flH X24 (Jvm.RoadKit.callSS X24 hx (y := y0) hown8 (mvT hZ8 (ow hw 3 rfl)) (mvT hZ8 (ow hw 4 rfl)) (mvT hZ8 (ow hw 5 rfl)) (mvT hZ8 (ow hw 6 rfl)) (by decide) (backOfSH (s := s) (vm0 := T8.vm) (W := 1) (own_text l Z a0 hw [] i0 zCOMPACT_STRINGS T24.heap n0 O_K24 B0 B1) hZ8 (ow hw 6 rfl) (ow hw 5 rfl) (by decide) (by decide) (own_EW hw) C_K24.1) (g := (mkF m 52 #[iv i0, iv i1, iv i2, iv i3, iv i4, iv i0, iv i3, rv b3, un, un, un] [(.int i0), (.ref b3)])) rfl (by rw [hml]; rfl) (argsL := [(.int i0)]) (rest := [(.ref b3)]) (lenOf pd__I_Ljava_lang_String_ rfl) rfl wf (hb hby at_52) (fun _ _ => ⟨rfl, rfl, (by decide : 13 + 6 ≤ _), (by decide : 29 + 12 ≤ _)⟩))
  obtain ⟨Y27, hS27, hZ27, hown27⟩ := rebS (s := s) (vm0 := T8.vm) hS8 (Nat.le_trans (Nat.le_refl _) K24.1) X27 hSq27 hg27 hZ8 hown8
  obtain ⟨b27_0, b27_1, k27_0, rfl, N27q, K27, lo27_1, f27_2, f27_3, f27_4, f27_5⟩ := hQ27
  have N27 := Fr.app N24 N27q
  have O_K27 : Old Z n0 T27.heap := O_K24.keep K27 all0
  have Kp_K27 : Keep h0 T27.heap [] := Kp_K24.trans K27 all0
  have c_K27 := Cq27
  have C_K27 := C_K24.trans c_K27
  have f28 := (f24_2.keep K27)
  have ne29 := Exa.neArv f28 f27_5 (ow hw 1 rfl)
  obtain ⟨T30, Lc30, _, X30, hSq30, hg30, Cq30, hQ30, st30⟩ := flH Y27 (Jvm.RoadKit.callSS Y27 hx (y := y0) hown27 (mvT hZ27 (ow hw 3 rfl)) (mvT hZ27 (ow hw 4 rfl)) (mvT hZ27 (ow hw 5 rfl)) (mvT hZ27 (ow hw 6 rfl)) (by decide) (backOfSH (s := s) (vm0 := T27.vm) (W := 2) (own_text l Z a0 hw [] i3 zCOMPACT_STRINGS T27.heap n0 O_K27 B0 B1) hZ27 (ow hw 6 rfl) (ow hw 5 rfl) (by decide) (by decide) (own_EW hw) C_K27.1) (g := (mkF m 57 #[iv i0, iv i1, iv i2, iv i3, iv i4, iv i0, iv i3, rv b3, un, un, un] [(.int i3), (.ref b27_0), (.ref b3)])) rfl (by rw [hml]; rfl) (argsL := [(.int i3)]) (rest := [(.ref b27_0), (.ref b3)]) (lenOf pd__I_Ljava_lang_String_ rfl) rfl wf (hb hby at_57) (fun _ _ => ⟨rfl, rfl, (by decide : 19 + 6 ≤ _), (by decide : 41 + 12 ≤ _)⟩))
  obtain ⟨Y30, hS30, hZ30, hown30⟩ := rebS (s := s) (vm0 := T27.vm) hS27 (Nat.le_refl _) X30 hSq30 hg30 hZ27 hown27
  obtain ⟨b30_0, b30_1, k30_0, rfl, N30q, K30, lo30_1, f30_2, f30_3, f30_4, f30_5⟩ := hQ30
  have N30 := Fr.app N27 N30q
  have O_K30 : Old Z n0 T30.heap := O_K27.keep K30 all0
  have Kp_K30 : Keep h0 T30.heap [] := Kp_K27.trans K30 all0
  have c_K30 := Cq30
  have C_K30 := C_K27.trans c_K30
  have f31 := (f28.keep K30)
  have ne32 := Exa.neArv f31 f30_5 (ow hw 1 rfl)
  have f33 := (f27_2.keep K30)
  have ne34 := Exa.neArv f33 f30_5 (ow hw 11 rfl)
  have f35 := ((f24_1.keep K27 nin0).keep K30 nin0)
  have f36 := (((f9.keep K24).keep K27).keep K30)
  have ne37 : b3 ≠ b5_0 := Nat.ne_of_lt (Nat.lt_of_lt_of_le A3.lt lo5_1)
  have f38 := ((((f5_3.keep K8 nin0).keep K24 (ninS (Ne.symm ne37) nin0)).keep K27 nin0).keep K30 nin0)
  have f39 := ((((f5_4.keep K8 nin0).keep K24 (ninS (Ne.symm ne37) nin0)).keep K27 nin0).keep K30 nin0)
  have f40 := ((((f5_5.keep K8 nin0).keep K24 (ninS (Ne.symm ne7) nin0)).keep K27 nin0).keep K30 nin0)
  have f41 := (f27_3.keep K30 nin0)
  have f42 := (f27_4.keep K30 nin0)
  have f43 := (f27_5.keep K30 nin0)
  have f45 := ((f24_3.keep K27 nin0).keep K30 nin0)
  have f46 := (((f8_2.keep K24).keep K27).keep K30)
  have ne47 : b3 ≠ b8_0 := Nat.ne_of_lt (Nat.lt_of_lt_of_le (A3.keep K5).lt lo8_1)
  have f48 := (((f8_3.keep K24 (ninS (Ne.symm ne47) nin0)).keep K27 nin0).keep K30 nin0)
  have f49 := (((f8_4.keep K24 (ninS (Ne.symm ne47) nin0)).keep K27 nin0).keep K30 nin0)
  have f50 := (((f8_5.keep K24 (ninS (Ne.symm ne12) nin0)).keep K27 nin0).keep K30 nin0)
  obtain ⟨cq52, kq52, q52a, q52b, q52c⟩ := isOf hZ30 rfl f31
  obtain ⟨T52, Lc52, _, X52, hSq52, hg52, Cq52, hQ52, st52⟩ := flH Y30 (Y30.virtualBackS hx (y := y15) (z := y15) hown30 (mvT hZ30 (ow hw 82 rfl)) (mvT hZ30 (ow hw 83 rfl)) (notFace_of_selects (args := #[]) (mvT hZ30 (ow hw 85 rfl))) (mvT hZ30 (ow hw 85 rfl)) (mvT hZ30 (ow hw 84 rfl)) (by decide) (backOfSH (s := s) (vm0 := T30.vm) (W := 0) (r15_1 l Z a0 hw [] b3 b27_0 b30_0 b5_0 b5_1 k5_0 (own_tl i0) b27_1 k27_0 (own_tl i0) zCOMPACT_STRINGS b8_0 b8_1 k8_0 (own_tl i2) b30_1 k30_0 (own_tl i3) T30.heap n0 O_K30 f35 f36 f38 f39 f40 (own_gt _) f33 f41 f42 f43 (own_gt _) B0 B1 hc44 f45 f46 f48 f49 f50 (own_gt _) f30_2 f30_3 f30_4 f30_5 (own_gt _) hc51) hZ30 (ow hw 86 rfl) (ow hw 2 rfl) (by decide) (by decide) (own_EW hw) C_K30.1) q52a q52c (g := (mkF m 60 #[iv i0, iv i1, iv i2, iv i3, iv i4, iv i0, iv i3, rv b3, un, un, un] [(.ref b30_0), (.ref b27_0), (.ref b3)])) rfl (by rw [hml]; rfl) (Steps.refl _) (argsL := [(.ref b27_0), (.ref b30_0)]) (rest := []) (lenOf pd__Ljava_lang_String_Ljava_lang_String__Z rfl) rfl wf (hb hby at_60) (fun _ _ => ⟨rfl, rfl, (by decide : 25 + 0 ≤ _), (by decide : 53 + 0 ≤ _)⟩))
  obtain ⟨Y52, hS52, hZ52, hown52⟩ := rebS (s := s) (vm0 := T30.vm) hS30 (Nat.le_refl _) X52 hSq52 hg52 hZ30 hown30
  obtain ⟨rfl, N52q, K52⟩ := hQ52
  have N52 := Fr.app N30 N52q
  have O_K52 : Old Z n0 T52.heap := O_K30.keep K52 all0
  have Kp_K52 : Keep h0 T52.heap [] := Kp_K30.trans K52 all0
  have c_K52 := Cq52
  have C_K52 := C_K30.trans c_K52
  obtain ⟨T53, Lc53, _, X53, hQ53, st53⟩ := flC Y52 (Jvm.LawKit.callS Y52 hx (y := y17) hown52 (mvT hZ52 (ow hw 95 rfl)) (mvT hZ52 (ow hw 96 rfl)) (mvT hZ52 (ow hw 5 rfl)) (mvT hZ52 (ow hw 97 rfl)) (by decide) (backOf (W := 0) (own_same l Z a0 hw [] i0 i0 T52.heap n0 O_K52) hZ52 (ow hw 97 rfl) (ow hw 5 rfl) (by decide) (by decide)) (g := (mkF m 68 #[iv i0, iv i1, iv i2, iv i3, iv i4, iv i0, iv i3, rv b3, iv (1 : Int32), un, un] [(.int i0), (.int i0)])) rfl (by rw [hml]; rfl) (argsL := [(.int i0), (.int i0)]) (rest := []) (lenOf pd__II_Z rfl) rfl wf (hb hby at_68) (fun _ _ => ⟨rfl, rfl, (by decide : 25 + 0 ≤ _), (by decide : 53 + 0 ≤ _)⟩))
  obtain ⟨rfl, N53q, e53⟩ := hQ53
  have N53 := Fr.app N52 N53q
  obtain ⟨T54, Lc54, _, X54, hQ54, st54⟩ := flC X53 (Jvm.LawKit.callS X53 hx (y := y17) hown52 (mvT hZ52 (ow hw 95 rfl)) (mvT hZ52 (ow hw 96 rfl)) (mvT hZ52 (ow hw 5 rfl)) (mvT hZ52 (ow hw 97 rfl)) (by decide) (backOf (W := 0) (own_same l Z a0 hw [] i2 i3 T52.heap n0 O_K52) hZ52 (ow hw 97 rfl) (ow hw 5 rfl) (by decide) (by decide)) (g := (mkF m 96 #[iv i0, iv i1, iv i2, iv i3, iv i4, iv i0, iv i3, rv b3, iv (1 : Int32), iv (1 : Int32), un] [(.int i3), (.int i2)])) rfl (by rw [hml]; rfl) (argsL := [(.int i2), (.int i3)]) (rest := []) (lenOf pd__II_Z rfl) rfl wf (hb hby at_96) (fun _ _ => ⟨rfl, e53, (by decide : 25 + 0 ≤ _), (by decide : 53 + 0 ≤ _)⟩))
  obtain ⟨rfl, N54q, e54⟩ := hQ54
  have N54 := Fr.app N53 N54q
  refine finH (Q := lawQ n0) (rm := room_1) (vm := T52.vm) Bd X54 hZ52 (own_EW hw) C_K52 hh e54 hS52 (Nat.le_refl _) (some (.int (1 : Int32))) nofun ⟨rfl, N54⟩ (by decide) (by decide) fun fs hr => ?_
  show St p e below s₁ m 0 #[iv i0, iv i1, iv i2, iv i3, iv i4, un, un, un, un, un, un] [] _
  refine XS.iload X0.here hx rfl (hb hby at_0) rfl ?_
  refine XS.iconst X0.here hx rfl (hb hby at_2) ?_
  refine XS.iand X0.here hx rfl (hb hby at_3) rfl ?_
  refine XS.ifNo X0.here hx rfl (hb hby at_4) rfl ((if0 _ _).trans (feq hc1).1) ?_
  refine XS.iloadN X0.here hx rfl (hb hby at_7) rfl ?_
  refine XS.goto X0.here hx rfl (pc0 := 8) (pc' := 12) rfl (hb hby at_8) (by decide) (by decide) ?_
  refine XS.istore X0.here hx rfl (hb hby at_12) rfl (l' := #[iv i0, iv i1, iv i2, iv i3, iv i4, iv i0, un, un, un, un, un]) rfl ?_
  refine XS.iload X0.here hx rfl (hb hby at_14) rfl ?_
  refine XS.iconst X0.here hx rfl (hb hby at_16) ?_
  refine XS.iand X0.here hx rfl (hb hby at_17) rfl ?_
  refine XS.ifYes X0.here hx rfl (pc0 := 18) (pc' := 25) rfl (hb hby at_18) rfl ((if0 _ _).trans (teq hc2).1) (by decide) (by decide) ?_
  refine XS.iloadN X0.here hx rfl (hb hby at_25) rfl ?_
  refine XS.istore X0.here hx rfl (hb hby at_26) rfl (l' := #[iv i0, iv i1, iv i2, iv i3, iv i4, iv i0, iv i3, un, un, un, un]) rfl ?_
  refine st3 _ ?_
  refine XS.dup X3.here hx rfl (hb hby at_31) rfl rfl ?_
  refine XS.iloadN X3.here hx rfl (hb hby at_32) rfl ?_
  refine st5.trans ?_
  refine XS.iloadN Y5.here hx rfl (hb hby at_36) rfl ?_
  refine st8.trans ?_
  refine XS.aconstNull Y8.here hx rfl (hb hby at_40) ?_
  refine XS.aconstNull Y8.here hx rfl (hb hby at_41) ?_
  refine XS.aconstNull Y8.here hx rfl (hb hby at_42) ?_
  refine st24.trans ?_
  refine XS.astore X24.here hx rfl (hb hby at_46) rfl rfl (l' := #[iv i0, iv i1, iv i2, iv i3, iv i4, iv i0, iv i3, rv b3, un, un, un]) rfl ?_
  refine XS.aload X24.here hx rfl (hb hby at_48) rfl rfl ?_
  show St p e below T24 m 50 #[iv i0, iv i1, iv i2, iv i3, iv i4, iv i0, iv i3, rv b3, un, un, un] [(.ref b3)] _
  refine XS.iload X24.here hx rfl (hb hby at_50) rfl ?_
  refine st27.trans ?_
  refine XS.iload Y27.here hx rfl (hb hby at_55) rfl ?_
  refine st30.trans ?_
  refine st52.trans ?_
  refine XS.istore Y52.here hx rfl (hb hby at_63) rfl (l' := #[iv i0, iv i1, iv i2, iv i3, iv i4, iv i0, iv i3, rv b3, iv (1 : Int32), un, un]) rfl ?_
  refine XS.iloadN Y52.here hx rfl (hb hby at_65) rfl ?_
  refine XS.iload Y52.here hx rfl (hb hby at_66) rfl ?_
  refine st53 _ ?_
  refine XS.ifYes X53.here hx rfl (pc0 := 71) (pc' := 81) rfl (hb hby at_71) rfl ((if0 _ _).trans (feq hc44).2) (by decide) (by decide) ?_
  refine XS.iconst X53.here hx rfl (hb hby at_81) ?_
  refine XS.goto X53.here hx rfl (pc0 := 82) (pc' := 86) rfl (hb hby at_82) (by decide) (by decide) ?_
  refine XS.istore X53.here hx rfl (hb hby at_86) rfl (l' := #[iv i0, iv i1, iv i2, iv i3, iv i4, iv i0, iv i3, rv b3, iv (1 : Int32), iv (1 : Int32), un]) rfl ?_
  refine XS.iload X53.here hx rfl (hb hby at_88) rfl ?_
  refine XS.ifNo X53.here hx rfl (hb hby at_90) rfl ((if0 _ _).trans (feq (by decide : ¬ ((1 : Int32) = (0 : Int32)))).1) ?_
  refine XS.iloadN X53.here hx rfl (hb hby at_93) rfl ?_
  refine XS.iload X53.here hx rfl (hb hby at_94) rfl ?_
  refine st54 _ ?_
  refine XS.ifNo X54.here hx rfl (hb hby at_99) rfl ((if0 _ _).trans (feq hc51).1) ?_
  refine XS.iconst X54.here hx rfl (hb hby at_102) ?_
  refine XS.goto X54.here hx rfl (pc0 := 103) (pc' := 107) rfl (hb hby at_103) (by decide) (by decide) ?_
  refine XS.istore X54.here hx rfl (hb hby at_107) rfl (l' := #[iv i0, iv i1, iv i2, iv i3, iv i4, iv i0, iv i3, rv b3, iv (1 : Int32), iv (1 : Int32), iv (1 : Int32)]) rfl ?_
  refine XS.iload X54.here hx rfl (hb hby at_109) rfl ?_
  refine XS.iload X54.here hx rfl (hb hby at_111) rfl ?_
  refine XS.icmpNo X54.here hx rfl (hb hby at_113) rfl (teq (rfl : (1 : Int32) = (1 : Int32))).2 ?_
  show St p e below T54 m 116 #[iv i0, iv i1, iv i2, iv i3, iv i4, iv i0, iv i3, rv b3, iv (1 : Int32), iv (1 : Int32), iv (1 : Int32)] [] _
  refine XS.iconst X54.here hx rfl (hb hby at_116) ?_
  refine XS.goto X54.here hx rfl (pc0 := 117) (pc' := 121) rfl (hb hby at_117) (by decide) (by decide) ?_
  exact retN X54 hx (t := .boolean) Bd.returns (by simp) (hb hby at_121) hr
theorem d15_48 : decode prog_22_method_3_code 48 = .ok (.iconst 0, 1) := by decide +kernel
def r15_2Q (Z : State) (a1 : Addr) (a2 : Addr) (a3 : Addr) (a4 : Addr) (a9 : Addr) (k11 : ClassId) (c12 : List Int32) (a17 : Addr) (k19 : ClassId) (c20 : List Int32) (p23 : Int32) (a28 : Addr) (a33 : Addr) (k35 : ClassId) (c36 : List Int32) (a41 : Addr) (k43 : ClassId) (c44 : List Int32) (h0 : Heap) (n0 : Nat) (v : Option Value) (h : Heap) (L : List Loc) : Prop := v = some (.int (0 : Int32)) ∧ Fr n0 L ∧ Keep h0 h []
set_option maxRecDepth 65536 in
set_option maxHeartbeats 40000000 in
theorem r15_2 (l : Launch) (Z : State) (a0 : Array Value) (hw : HW a0 Z) (ws : List Jvm.Cond) (a1 : Addr) (a2 : Addr) (a3 : Addr) (a4 : Addr) (a9 : Addr) (k11 : ClassId) (c12 : List Int32) (a17 : Addr) (k19 : ClassId) (c20 : List Int32) (p23 : Int32) (a28 : Addr) (a33 : Addr) (k35 : ClassId) (c36 : List Int32) (a41 : Addr) (k43 : ClassId) (c44 : List Int32) (h0 : Heap) (n0 : Nat) (O0 : Old Z n0 h0) (H5 : xF5 Z h0 a1 (.ref a4)) (H7 : xE1 Z h0 a4) (H8 : xF2 Z h0 a4 (.int (0 : Int32))) (H10 : xF0 Z h0 a4 (.ref a9)) (H13 : Arv Z h0 a9 k11 .byte (own_tn c12) (own_tb c12) (.int (0 : Int32))) (H14 : own_GT c12) (H15 : xE1 Z h0 a2) (H16 : xF2 Z h0 a2 (.int (0 : Int32))) (H18 : xF0 Z h0 a2 (.ref a17)) (H21 : Arv Z h0 a17 k19 .byte (own_tn c20) (own_tb c20) (.int (0 : Int32))) (H22 : own_GT c20) (H24 : Sta Z Z.heap "java/lang/String" "COMPACT_STRINGS" "Z" (.int p23)) (hc25 : ¬ (p23 = (0 : Int32))) (hc27 : ¬ ((own_eqc c12 c20) = (0 : Int32))) (H29 : xF7 Z h0 a1 (.ref a28)) (H31 : xE1 Z h0 a28) (H32 : xF2 Z h0 a28 (.int (0 : Int32))) (H34 : xF0 Z h0 a28 (.ref a33)) (H37 : Arv Z h0 a33 k35 .byte (own_tn c36) (own_tb c36) (.int (0 : Int32))) (H38 : own_GT c36) (H39 : xE1 Z h0 a3) (H40 : xF2 Z h0 a3 (.int (0 : Int32))) (H42 : xF0 Z h0 a3 (.ref a41)) (H45 : Arv Z h0 a41 k43 .byte (own_tn c44) (own_tb c44) (.int (0 : Int32))) (H46 : own_GT c44) (hc48 : (own_eqc c36 c44) = (0 : Int32)) :
    MFH l y15 prog_22_method_3_code 4 (some .boolean) ws ({ frames := 2, cells := 0, slots := 0, locals := 28 } : Room) Z #[(.ref a1), (.ref a2), (.ref a3)] h0 (r15_2Q Z a1 a2 a3 a4 a9 k11 c12 a17 k19 c20 p23 a28 a33 k35 c36 a41 k43 c44 h0 n0) := by
  refine own_inH (plainFor_of_name pn_com_example_agave_agave_store_RequestStore_StoredRequest) #[rv a1, rv a2, rv a3, un] (fun _ => by first | (simp [entryFrame, mkF, argsToLocals, Value.category]; done) | rfl) ?_
  intro p e s m below meth c s₁ Bd hx hby hml hown hnm hZ hh C0 e0 X0
  have N0 := Fr.nil n0
  obtain ⟨T6, X6, e6, st6⟩ := gF X0 hx hZ hown (ow hw 58 rfl) e0 H5 (g := (mkF m 1 #[rv a1, rv a2, rv a3, un] [(.ref a1)])) rfl rfl (hb hby d15_1)
  obtain ⟨cq26, kq26, q26a, q26b, q26c⟩ := isOf hZ e6 H7
  obtain ⟨T26, Lc26, _, X26, hQ26, st26⟩ := fl X6 (X6.virtualBack hx (y := y16) (z := y16) hown (mvT hZ (ow hw 87 rfl)) (mvT hZ (ow hw 88 rfl)) (notFace_of_selects (args := #[]) (mvT hZ (ow hw 90 rfl))) (mvT hZ (ow hw 90 rfl)) (mvT hZ (ow hw 89 rfl)) (by decide) (own_eqB (W := 0) n0 hZ hw (ow hw 11 rfl) H7 H10 H8 H13 H14 H15 H18 H16 H21 H22 (H24.ext O0.2) hc25 (by decide) (by decide)) q26a q26c (g := (mkF m 5 #[rv a1, rv a2, rv a3, un] [(.ref a2), (.ref a4)])) rfl (by rw [hml]; rfl) (Steps.refl _) (argsL := [(.ref a2)]) (rest := []) (lenOf pd__Ljava_lang_Object__Z rfl) rfl wf (hb hby d15_5) (fun _ _ => ⟨rfl, e6, (by decide : 0 + 0 ≤ _), (by decide : 0 + 0 ≤ _)⟩))
  obtain ⟨rfl, N26q, e26⟩ := hQ26
  have N26 := Fr.app N0 N26q
  obtain ⟨T30, X30, e30, st30⟩ := gF X26 hx hZ hown (ow hw 60 rfl) e26 H29 (g := (mkF m 34 #[rv a1, rv a2, rv a3, iv (1 : Int32)] [(.ref a1)])) rfl rfl (hb hby d15_34)
  obtain ⟨cq47, kq47, q47a, q47b, q47c⟩ := isOf hZ e30 H31
  obtain ⟨T47, Lc47, _, X47, hQ47, st47⟩ := fl X30 (X30.virtualBack hx (y := y16) (z := y16) hown (mvT hZ (ow hw 87 rfl)) (mvT hZ (ow hw 88 rfl)) (notFace_of_selects (args := #[]) (mvT hZ (ow hw 90 rfl))) (mvT hZ (ow hw 90 rfl)) (mvT hZ (ow hw 89 rfl)) (by decide) (own_eqB (W := 0) n0 hZ hw (ow hw 11 rfl) H31 H34 H32 H37 H38 H39 H42 H40 H45 H46 (H24.ext O0.2) hc25 (by decide) (by decide)) q47a q47c (g := (mkF m 38 #[rv a1, rv a2, rv a3, iv (1 : Int32)] [(.ref a3), (.ref a28)])) rfl (by rw [hml]; rfl) (Steps.refl _) (argsL := [(.ref a3)]) (rest := []) (lenOf pd__Ljava_lang_Object__Z rfl) rfl wf (hb hby d15_38) (fun _ _ => ⟨rfl, e30, (by decide : 0 + 0 ≤ _), (by decide : 0 + 0 ≤ _)⟩))
  obtain ⟨rfl, N47q, e47⟩ := hQ47
  have N47 := Fr.app N26 N47q
  refine finH (Q := r15_2Q Z a1 a2 a3 a4 a9 k11 c12 a17 k19 c20 p23 a28 a33 k35 c36 a41 k43 c44 h0 n0) (rm := ({ frames := 2, cells := 0, slots := 0, locals := 28 } : Room)) (vm := s.vm) Bd X47 hZ (own_EW hw) C0 hh e47 (State.WarmedH.since (State.WarmedH.refl s) 0) (Nat.zero_le _) (some (.int (0 : Int32))) nofun ⟨rfl, N47, (Keep.refl h0 [])⟩ (by decide) (by decide) fun fs hr => ?_
  show St p e below s₁ m 0 #[rv a1, rv a2, rv a3, un] [] _
  refine XS.aloadN X0.here hx rfl (hb hby d15_0) rfl rfl ?_
  refine st6 _ ?_
  refine XS.aloadN X6.here hx rfl (hb hby d15_4) rfl rfl ?_
  refine st26.trans ?_
  refine XS.ifYes X26.here hx rfl (pc0 := 8) (pc' := 23) rfl (hb hby d15_8) rfl ((if0 _ _).trans (feq hc27).2) (by decide) (by decide) ?_
  refine XS.iconst X26.here hx rfl (hb hby d15_23) ?_
  refine XS.goto X26.here hx rfl (pc0 := 24) (pc' := 28) rfl (hb hby d15_24) (by decide) (by decide) ?_
  refine XS.istoreN X26.here hx rfl (hb hby d15_28) rfl (l' := #[rv a1, rv a2, rv a3, iv (1 : Int32)]) rfl ?_
  refine XS.iloadN X26.here hx rfl (hb hby d15_29) rfl ?_
  refine XS.ifNo X26.here hx rfl (hb hby d15_30) rfl ((if0 _ _).trans (feq (by decide : ¬ ((1 : Int32) = (0 : Int32)))).1) ?_
  refine XS.aloadN X26.here hx rfl (hb hby d15_33) rfl rfl ?_
  refine st30 _ ?_
  refine XS.aloadN X30.here hx rfl (hb hby d15_37) rfl rfl ?_
  refine st47.trans ?_
  refine XS.ifYes X47.here hx rfl (pc0 := 41) (pc' := 48) rfl (hb hby d15_41) rfl ((if0 _ _).trans (teq hc48).1) (by decide) (by decide) ?_
  refine XS.iconst X47.here hx rfl (hb hby d15_48) ?_
  exact retN X47 hx (t := .boolean) Bd.returns (by simp) (hb hby d15_49) hr
set_option maxRecDepth 65536 in
set_option maxHeartbeats 40000000 in
theorem law_3 (l : Launch) (Z : State) (a0 : Array Value) (hw : HW a0 Z) (ws : List Jvm.Cond) (zCOMPACT_STRINGS : Int32) (B : Base Z zCOMPACT_STRINGS) (i0 : Int32) (i1 : Int32) (i2 : Int32) (i3 : Int32) (i4 : Int32) (h0 : Heap) (n0 : Nat) (O0 : Old Z n0 h0) (hc1 : ¬ ((i4 &&& (1 : Int32)) = (0 : Int32))) (hc2 : (i4 &&& (2 : Int32)) = (0 : Int32)) (hc44 : ¬ ((own_eqc (own_tl i0) (own_tl i0)) = (0 : Int32))) (hc51 : (own_eqc (own_tl i2) (own_tl i3)) = (0 : Int32)) :
    MFH l x code maxLocals ret ws room_1 Z #[(.int i0), (.int i1), (.int i2), (.int i3), (.int i4)] h0 (lawQ n0) := by
  refine own_inH (plainFor_of_name pn_com_example_agave_agave_store_StoredRequestIsSameRequestPinLaw) #[iv i0, iv i1, iv i2, iv i3, iv i4, un, un, un, un, un, un] (fun _ => by first | (simp [entryFrame, mkF, argsToLocals, Value.category, maxLocals]; done) | rfl) ?_
  intro p e s m below meth c s₁ Bd hx hby hml hown hnm hZ hh C0 e0 X0
  have N0 := Fr.nil n0
  obtain ⟨B0, B1⟩ := B
  obtain ⟨T3, h3, X3, e3, E3, A3, D3, -, st3⟩ := newO X0 hx hZ hown (ow hw 0 rfl) (ow hw 1 rfl) (ow hw 2 rfl) e0 (g := (mkF m 28 #[iv i0, iv i1, iv i2, iv i3, iv i4, iv i0, iv i3, un, un, un, un] [])) rfl (hb hby at_28) (by decide) (by decide)
  obtain ⟨b3, g3⟩ : ∃ z, z = h0.size := ⟨_, rfl⟩
  rw [← g3] at A3 D3 st3
  have O_E3 : Old Z n0 h3 := O0.ext E3
  have Kp_E3 : Keep h0 h3 [] := (Keep.refl h0 []).ext E3
  have c_E3 := CHr.ext E3 C0.1
  have C_E3 := C0.trans c_E3
  obtain ⟨T5, Lc5, _, X5, hSq5, hg5, Cq5, hQ5, st5⟩ := flH X3 (Jvm.RoadKit.callSS X3 hx (y := y0) hown (mvT hZ (ow hw 3 rfl)) (mvT hZ (ow hw 4 rfl)) (mvT hZ (ow hw 5 rfl)) (mvT hZ (ow hw 6 rfl)) (by decide) (backOfSH (s := s) (vm0 := s.vm) (W := 2) (own_text l Z a0 hw [] i0 zCOMPACT_STRINGS h3 n0 O_E3 B0 B1) hZ (ow hw 6 rfl) (ow hw 5 rfl) (by decide) (by decide) (own_EW hw) C_E3.1) (g := (mkF m 33 #[iv i0, iv i1, iv i2, iv i3, iv i4, iv i0, iv i3, un, un, un, un] [(.int i0), (.ref b3), (.ref b3)])) rfl (by rw [hml]; rfl) (argsL := [(.int i0)]) (rest := [(.ref b3), (.ref b3)]) (lenOf pd__I_Ljava_lang_String_ rfl) rfl wf (hb hby at_33) (fun _ _ => ⟨rfl, e3, (by decide : 1 + 6 ≤ _), (by decide : 5 + 12 ≤ _)⟩))
  obtain ⟨Y5, hS5, hZ5, hown5⟩ := rebS (s := s) (vm0 := s.vm) (State.WarmedH.since (State.WarmedH.refl s) 0) (by rw [e3]; exact (Nat.zero_le _)) X5 hSq5 hg5 hZ hown
  obtain ⟨b5_0, b5_1, k5_0, rfl, N5q, K5, lo5_1, f5_2, f5_3, f5_4, f5_5⟩ := hQ5
  have N5 := Fr.app N0 N5q
  have O_K5 : Old Z n0 T5.heap := O_E3.keep K5 all0
  have Kp_K5 : Keep h0 T5.heap [] := Kp_E3.trans K5 all0
  have c_K5 := Cq5
  have C_K5 := C_E3.trans c_K5
  have f6 := (A3.keep K5)
  have ne7 := Exa.neArv f6 f5_5 (ow hw 1 rfl)
  obtain ⟨T8, Lc8, _, X8, hSq8, hg8, Cq8, hQ8, st8⟩ := flH Y5 (Jvm.RoadKit.callSS Y5 hx (y := y0) hown5 (mvT hZ5 (ow hw 3 rfl)) (mvT hZ5 (ow hw 4 rfl)) (mvT hZ5 (ow hw 5 rfl)) (mvT hZ5 (ow hw 6 rfl)) (by decide) (backOfSH (s := s) (vm0 := T5.vm) (W := 3) (own_text l Z a0 hw [] i2 zCOMPACT_STRINGS T5.heap n0 O_K5 B0 B1) hZ5 (ow hw 6 rfl) (ow hw 5 rfl) (by decide) (by decide) (own_EW hw) C_K5.1) (g := (mkF m 37 #[iv i0, iv i1, iv i2, iv i3, iv i4, iv i0, iv i3, un, un, un, un] [(.int i2), (.ref b5_0), (.ref b3), (.ref b3)])) rfl (by rw [hml]; rfl) (argsL := [(.int i2)]) (rest := [(.ref b5_0), (.ref b3), (.ref b3)]) (lenOf pd__I_Ljava_lang_String_ rfl) rfl wf (hb hby at_37) (fun _ _ => ⟨rfl, rfl, (by decide : 7 + 6 ≤ _), (by decide : 17 + 12 ≤ _)⟩))
  obtain ⟨Y8, hS8, hZ8, hown8⟩ := rebS (s := s) (vm0 := T5.vm) hS5 (Nat.le_refl _) X8 hSq8 hg8 hZ5 hown5
  obtain ⟨b8_0, b8_1, k8_0, rfl, N8q, K8, lo8_1, f8_2, f8_3, f8_4, f8_5⟩ := hQ8
  have N8 := Fr.app N5 N8q
  have O_K8 : Old Z n0 T8.heap := O_K5.keep K8 all0
  have Kp_K8 : Keep h0 T8.heap [] := Kp_K5.trans K8 all0
  have c_K8 := Cq8
  have C_K8 := C_K5.trans c_K8
  have f9 := (f5_2.keep K8)
  have ne10 := Exa.neArv f9 f8_5 (ow hw 11 rfl)
  have f11 := (f6.keep K8)
  have ne12 := Exa.neArv f11 f8_5 (ow hw 1 rfl)
  have f13 : xF5 Z h3 b3 .null := D3 (Or.inr (ow hw 59 rfl)) (ty := (.object "java/lang/String")) (by decide)
  have f14 := ((f13.keep K5 nin0).keep K8 nin0)
  have g15 : n0 ≤ b3 := Nat.le_trans (Nat.le_trans (Nat.le_of_eq O0.1.symm) O0.2.1) (Nat.le_of_eq g3.symm)
  have f16 : xF7 Z h3 b3 .null := D3 (Or.inr (ow hw 61 rfl)) (ty := (.object "java/lang/String")) (by decide)
  have f17 := ((f16.keep K5 nin0).keep K8 nin0)
  have f18 : xF8 Z h3 b3 .null := D3 (Or.inr (ow hw 63 rfl)) (ty := (.object "java/util/Optional")) (by decide)
  have f19 := ((f18.keep K5 nin0).keep K8 nin0)
  have f20 : xF9 Z h3 b3 .null := D3 (Or.inr (ow hw 65 rfl)) (ty := (.object "java/util/Optional")) (by decide)
  have f21 := ((f20.keep K5 nin0).keep K8 nin0)
  have f22 : xF10 Z h3 b3 .null := D3 (Or.inr (ow hw 67 rfl)) (ty := (.object "java/util/Optional")) (by decide)
  have f23 := ((f22.keep K5 nin0).keep K8 nin0)
  obtain ⟨T24, Lc24, _, X24, hQ24, st24⟩ := fl Y8 (Y8.specialBack hx (y := y13) rfl hown8 (mvT hZ8 (ow hw 49 rfl)) (mvT hZ8 (ow hw 50 rfl)) (mvT hZ8 (ow hw 51 rfl)) (by decide) (backOf (W := 1) (r13_1 l Z a0 hw [] b3 b5_0 b8_0 T8.heap n0 O_K8 f14 f11 g15 f17 f19 f21 f23) hZ8 (ow hw 51 rfl) (ow hw 2 rfl) (by decide) (by decide)) (g := (mkF m 43 #[iv i0, iv i1, iv i2, iv i3, iv i4, iv i0, iv i3, un, un, un, un] [.null, .null, .null, (.ref b8_0), (.ref b5_0), (.ref b3), (.ref b3)])) rfl (by rw [hml]; rfl) (Steps.refl _) (a := b3) (argsL := [(.ref b5_0), (.ref b8_0), .null, .null, .null]) (rest := [(.ref b3)]) (lenOf pd__Ljava_lang_String_Ljava_lang_String_Ljava_util_Optional_Ljava_util_Optional_Ljava_util_Optional__V rfl) rfl wf (hb hby at_43) (fun _ _ => ⟨rfl, rfl, (by decide : 13 + 0 ≤ _), (by decide : 29 + 0 ≤ _)⟩))
  obtain ⟨rfl, N24q, K24, f24_1, f24_2, f24_3, f24_4, f24_5, f24_6⟩ := hQ24
  have N24 := Fr.app N8 N24q
  have sf25 := (c_K8.safe (A3.keep K5).lt (c_K5.safe A3.lt (Safe.ext E3 C0.1 (Safe.new (Nat.le_of_eq g3.symm)))))
  have z26 : h0.size ≤ b3 := Nat.le_trans (Keep.refl h0 []).1 (Nat.le_of_eq g3.symm)
  have O_K24 : Old Z n0 T24.heap := O_K8.keep K24 (allS g15 all0)
  have Kp_K24 : Keep h0 T24.heap [] := Kp_K8.trans K24 (allS (Or.inr z26) all0)
  have c_K24 := CHr.keep K24 (allS sf25 all0) C_K8.1
  have C_K24 := C_K8.trans c_K24
  obtain ⟨T27, Lc27, _, X27, hSq27, hg27, Cq27, hQ27, st27⟩ := flH X24 (Jvm.RoadKit.callSS X24 hx (y := y0) hown8 (mvT hZ8 (ow hw 3 rfl)) (mvT hZ8 (ow hw 4 rfl)) (mvT hZ8 (ow hw 5 rfl)) (mvT hZ8 (ow hw 6 rfl)) (by decide) (backOfSH (s := s) (vm0 := T8.vm) (W := 1) (own_text l Z a0 hw [] i0 zCOMPACT_STRINGS T24.heap n0 O_K24 B0 B1) hZ8 (ow hw 6 rfl) (ow hw 5 rfl) (by decide) (by decide) (own_EW hw) C_K24.1) (g := (mkF m 52 #[iv i0, iv i1, iv i2, iv i3, iv i4, iv i0, iv i3, rv b3, un, un, un] [(.int i0), (.ref b3)])) rfl (by rw [hml]; rfl) (argsL := [(.int i0)]) (rest := [(.ref b3)]) (lenOf pd__I_Ljava_lang_String_ rfl) rfl wf (hb hby at_52) (fun _ _ => ⟨rfl, rfl, (by decide : 13 + 6 ≤ _), (by decide : 29 + 12 ≤ _)⟩))
  obtain ⟨Y27, hS27, hZ27, hown27⟩ := rebS (s := s) (vm0 := T8.vm) hS8 (Nat.le_trans (Nat.le_refl _) K24.1) X27 hSq27 hg27 hZ8 hown8
  obtain ⟨b27_0, b27_1, k27_0, rfl, N27q, K27, lo27_1, f27_2, f27_3, f27_4, f27_5⟩ := hQ27
  have N27 := Fr.app N24 N27q
  have O_K27 : Old Z n0 T27.heap := O_K24.keep K27 all0
  have Kp_K27 : Keep h0 T27.heap [] := Kp_K24.trans K27 all0
  have c_K27 := Cq27
  have C_K27 := C_K24.trans c_K27
  have f28 := (f24_2.keep K27)
  have ne29 := Exa.neArv f28 f27_5 (ow hw 1 rfl)
  obtain ⟨T30, Lc30, _, X30, hSq30, hg30, Cq30, hQ30, st30⟩ := flH Y27 (Jvm.RoadKit.callSS Y27 hx (y := y0) hown27 (mvT hZ27 (ow hw 3 rfl)) (mvT hZ27 (ow hw 4 rfl)) (mvT hZ27 (ow hw 5 rfl)) (mvT hZ27 (ow hw 6 rfl)) (by decide) (backOfSH (s := s) (vm0 := T27.vm) (W := 2) (own_text l Z a0 hw [] i3 zCOMPACT_STRINGS T27.heap n0 O_K27 B0 B1) hZ27 (ow hw 6 rfl) (ow hw 5 rfl) (by decide) (by decide) (own_EW hw) C_K27.1) (g := (mkF m 57 #[iv i0, iv i1, iv i2, iv i3, iv i4, iv i0, iv i3, rv b3, un, un, un] [(.int i3), (.ref b27_0), (.ref b3)])) rfl (by rw [hml]; rfl) (argsL := [(.int i3)]) (rest := [(.ref b27_0), (.ref b3)]) (lenOf pd__I_Ljava_lang_String_ rfl) rfl wf (hb hby at_57) (fun _ _ => ⟨rfl, rfl, (by decide : 19 + 6 ≤ _), (by decide : 41 + 12 ≤ _)⟩))
  obtain ⟨Y30, hS30, hZ30, hown30⟩ := rebS (s := s) (vm0 := T27.vm) hS27 (Nat.le_refl _) X30 hSq30 hg30 hZ27 hown27
  obtain ⟨b30_0, b30_1, k30_0, rfl, N30q, K30, lo30_1, f30_2, f30_3, f30_4, f30_5⟩ := hQ30
  have N30 := Fr.app N27 N30q
  have O_K30 : Old Z n0 T30.heap := O_K27.keep K30 all0
  have Kp_K30 : Keep h0 T30.heap [] := Kp_K27.trans K30 all0
  have c_K30 := Cq30
  have C_K30 := C_K27.trans c_K30
  have f31 := (f28.keep K30)
  have ne32 := Exa.neArv f31 f30_5 (ow hw 1 rfl)
  have f33 := (f27_2.keep K30)
  have ne34 := Exa.neArv f33 f30_5 (ow hw 11 rfl)
  have f35 := ((f24_1.keep K27 nin0).keep K30 nin0)
  have f36 := (((f9.keep K24).keep K27).keep K30)
  have ne37 : b3 ≠ b5_0 := Nat.ne_of_lt (Nat.lt_of_lt_of_le A3.lt lo5_1)
  have f38 := ((((f5_3.keep K8 nin0).keep K24 (ninS (Ne.symm ne37) nin0)).keep K27 nin0).keep K30 nin0)
  have f39 := ((((f5_4.keep K8 nin0).keep K24 (ninS (Ne.symm ne37) nin0)).keep K27 nin0).keep K30 nin0)
  have f40 := ((((f5_5.keep K8 nin0).keep K24 (ninS (Ne.symm ne7) nin0)).keep K27 nin0).keep K30 nin0)
  have f41 := (f27_3.keep K30 nin0)
  have f42 := (f27_4.keep K30 nin0)
  have f43 := (f27_5.keep K30 nin0)
  have f45 := ((f24_3.keep K27 nin0).keep K30 nin0)
  have f46 := (((f8_2.keep K24).keep K27).keep K30)
  have ne47 : b3 ≠ b8_0 := Nat.ne_of_lt (Nat.lt_of_lt_of_le (A3.keep K5).lt lo8_1)
  have f48 := (((f8_3.keep K24 (ninS (Ne.symm ne47) nin0)).keep K27 nin0).keep K30 nin0)
  have f49 := (((f8_4.keep K24 (ninS (Ne.symm ne47) nin0)).keep K27 nin0).keep K30 nin0)
  have f50 := (((f8_5.keep K24 (ninS (Ne.symm ne12) nin0)).keep K27 nin0).keep K30 nin0)
  obtain ⟨cq52, kq52, q52a, q52b, q52c⟩ := isOf hZ30 rfl f31
  obtain ⟨T52, Lc52, _, X52, hSq52, hg52, Cq52, hQ52, st52⟩ := flH Y30 (Y30.virtualBackS hx (y := y15) (z := y15) hown30 (mvT hZ30 (ow hw 82 rfl)) (mvT hZ30 (ow hw 83 rfl)) (notFace_of_selects (args := #[]) (mvT hZ30 (ow hw 85 rfl))) (mvT hZ30 (ow hw 85 rfl)) (mvT hZ30 (ow hw 84 rfl)) (by decide) (backOfSH (s := s) (vm0 := T30.vm) (W := 0) (r15_2 l Z a0 hw [] b3 b27_0 b30_0 b5_0 b5_1 k5_0 (own_tl i0) b27_1 k27_0 (own_tl i0) zCOMPACT_STRINGS b8_0 b8_1 k8_0 (own_tl i2) b30_1 k30_0 (own_tl i3) T30.heap n0 O_K30 f35 f36 f38 f39 f40 (own_gt _) f33 f41 f42 f43 (own_gt _) B0 B1 hc44 f45 f46 f48 f49 f50 (own_gt _) f30_2 f30_3 f30_4 f30_5 (own_gt _) hc51) hZ30 (ow hw 86 rfl) (ow hw 2 rfl) (by decide) (by decide) (own_EW hw) C_K30.1) q52a q52c (g := (mkF m 60 #[iv i0, iv i1, iv i2, iv i3, iv i4, iv i0, iv i3, rv b3, un, un, un] [(.ref b30_0), (.ref b27_0), (.ref b3)])) rfl (by rw [hml]; rfl) (Steps.refl _) (argsL := [(.ref b27_0), (.ref b30_0)]) (rest := []) (lenOf pd__Ljava_lang_String_Ljava_lang_String__Z rfl) rfl wf (hb hby at_60) (fun _ _ => ⟨rfl, rfl, (by decide : 25 + 0 ≤ _), (by decide : 53 + 0 ≤ _)⟩))
  obtain ⟨Y52, hS52, hZ52, hown52⟩ := rebS (s := s) (vm0 := T30.vm) hS30 (Nat.le_refl _) X52 hSq52 hg52 hZ30 hown30
  obtain ⟨rfl, N52q, K52⟩ := hQ52
  have N52 := Fr.app N30 N52q
  have O_K52 : Old Z n0 T52.heap := O_K30.keep K52 all0
  have Kp_K52 : Keep h0 T52.heap [] := Kp_K30.trans K52 all0
  have c_K52 := Cq52
  have C_K52 := C_K30.trans c_K52
  obtain ⟨T53, Lc53, _, X53, hQ53, st53⟩ := flC Y52 (Jvm.LawKit.callS Y52 hx (y := y17) hown52 (mvT hZ52 (ow hw 95 rfl)) (mvT hZ52 (ow hw 96 rfl)) (mvT hZ52 (ow hw 5 rfl)) (mvT hZ52 (ow hw 97 rfl)) (by decide) (backOf (W := 0) (own_same l Z a0 hw [] i0 i0 T52.heap n0 O_K52) hZ52 (ow hw 97 rfl) (ow hw 5 rfl) (by decide) (by decide)) (g := (mkF m 68 #[iv i0, iv i1, iv i2, iv i3, iv i4, iv i0, iv i3, rv b3, iv (0 : Int32), un, un] [(.int i0), (.int i0)])) rfl (by rw [hml]; rfl) (argsL := [(.int i0), (.int i0)]) (rest := []) (lenOf pd__II_Z rfl) rfl wf (hb hby at_68) (fun _ _ => ⟨rfl, rfl, (by decide : 25 + 0 ≤ _), (by decide : 53 + 0 ≤ _)⟩))
  obtain ⟨rfl, N53q, e53⟩ := hQ53
  have N53 := Fr.app N52 N53q
  obtain ⟨T54, Lc54, _, X54, hQ54, st54⟩ := flC X53 (Jvm.LawKit.callS X53 hx (y := y17) hown52 (mvT hZ52 (ow hw 95 rfl)) (mvT hZ52 (ow hw 96 rfl)) (mvT hZ52 (ow hw 5 rfl)) (mvT hZ52 (ow hw 97 rfl)) (by decide) (backOf (W := 0) (own_same l Z a0 hw [] i2 i3 T52.heap n0 O_K52) hZ52 (ow hw 97 rfl) (ow hw 5 rfl) (by decide) (by decide)) (g := (mkF m 96 #[iv i0, iv i1, iv i2, iv i3, iv i4, iv i0, iv i3, rv b3, iv (0 : Int32), iv (1 : Int32), un] [(.int i3), (.int i2)])) rfl (by rw [hml]; rfl) (argsL := [(.int i2), (.int i3)]) (rest := []) (lenOf pd__II_Z rfl) rfl wf (hb hby at_96) (fun _ _ => ⟨rfl, e53, (by decide : 25 + 0 ≤ _), (by decide : 53 + 0 ≤ _)⟩))
  obtain ⟨rfl, N54q, e54⟩ := hQ54
  have N54 := Fr.app N53 N54q
  refine finH (Q := lawQ n0) (rm := room_1) (vm := T52.vm) Bd X54 hZ52 (own_EW hw) C_K52 hh e54 hS52 (Nat.le_refl _) (some (.int (1 : Int32))) nofun ⟨rfl, N54⟩ (by decide) (by decide) fun fs hr => ?_
  show St p e below s₁ m 0 #[iv i0, iv i1, iv i2, iv i3, iv i4, un, un, un, un, un, un] [] _
  refine XS.iload X0.here hx rfl (hb hby at_0) rfl ?_
  refine XS.iconst X0.here hx rfl (hb hby at_2) ?_
  refine XS.iand X0.here hx rfl (hb hby at_3) rfl ?_
  refine XS.ifNo X0.here hx rfl (hb hby at_4) rfl ((if0 _ _).trans (feq hc1).1) ?_
  refine XS.iloadN X0.here hx rfl (hb hby at_7) rfl ?_
  refine XS.goto X0.here hx rfl (pc0 := 8) (pc' := 12) rfl (hb hby at_8) (by decide) (by decide) ?_
  refine XS.istore X0.here hx rfl (hb hby at_12) rfl (l' := #[iv i0, iv i1, iv i2, iv i3, iv i4, iv i0, un, un, un, un, un]) rfl ?_
  refine XS.iload X0.here hx rfl (hb hby at_14) rfl ?_
  refine XS.iconst X0.here hx rfl (hb hby at_16) ?_
  refine XS.iand X0.here hx rfl (hb hby at_17) rfl ?_
  refine XS.ifYes X0.here hx rfl (pc0 := 18) (pc' := 25) rfl (hb hby at_18) rfl ((if0 _ _).trans (teq hc2).1) (by decide) (by decide) ?_
  refine XS.iloadN X0.here hx rfl (hb hby at_25) rfl ?_
  refine XS.istore X0.here hx rfl (hb hby at_26) rfl (l' := #[iv i0, iv i1, iv i2, iv i3, iv i4, iv i0, iv i3, un, un, un, un]) rfl ?_
  refine st3 _ ?_
  refine XS.dup X3.here hx rfl (hb hby at_31) rfl rfl ?_
  refine XS.iloadN X3.here hx rfl (hb hby at_32) rfl ?_
  refine st5.trans ?_
  refine XS.iloadN Y5.here hx rfl (hb hby at_36) rfl ?_
  refine st8.trans ?_
  refine XS.aconstNull Y8.here hx rfl (hb hby at_40) ?_
  refine XS.aconstNull Y8.here hx rfl (hb hby at_41) ?_
  refine XS.aconstNull Y8.here hx rfl (hb hby at_42) ?_
  refine st24.trans ?_
  refine XS.astore X24.here hx rfl (hb hby at_46) rfl rfl (l' := #[iv i0, iv i1, iv i2, iv i3, iv i4, iv i0, iv i3, rv b3, un, un, un]) rfl ?_
  refine XS.aload X24.here hx rfl (hb hby at_48) rfl rfl ?_
  show St p e below T24 m 50 #[iv i0, iv i1, iv i2, iv i3, iv i4, iv i0, iv i3, rv b3, un, un, un] [(.ref b3)] _
  refine XS.iload X24.here hx rfl (hb hby at_50) rfl ?_
  refine st27.trans ?_
  refine XS.iload Y27.here hx rfl (hb hby at_55) rfl ?_
  refine st30.trans ?_
  refine st52.trans ?_
  refine XS.istore Y52.here hx rfl (hb hby at_63) rfl (l' := #[iv i0, iv i1, iv i2, iv i3, iv i4, iv i0, iv i3, rv b3, iv (0 : Int32), un, un]) rfl ?_
  refine XS.iloadN Y52.here hx rfl (hb hby at_65) rfl ?_
  refine XS.iload Y52.here hx rfl (hb hby at_66) rfl ?_
  refine st53 _ ?_
  refine XS.ifYes X53.here hx rfl (pc0 := 71) (pc' := 81) rfl (hb hby at_71) rfl ((if0 _ _).trans (feq hc44).2) (by decide) (by decide) ?_
  refine XS.iconst X53.here hx rfl (hb hby at_81) ?_
  refine XS.goto X53.here hx rfl (pc0 := 82) (pc' := 86) rfl (hb hby at_82) (by decide) (by decide) ?_
  refine XS.istore X53.here hx rfl (hb hby at_86) rfl (l' := #[iv i0, iv i1, iv i2, iv i3, iv i4, iv i0, iv i3, rv b3, iv (0 : Int32), iv (1 : Int32), un]) rfl ?_
  refine XS.iload X53.here hx rfl (hb hby at_88) rfl ?_
  refine XS.ifNo X53.here hx rfl (hb hby at_90) rfl ((if0 _ _).trans (feq (by decide : ¬ ((1 : Int32) = (0 : Int32)))).1) ?_
  refine XS.iloadN X53.here hx rfl (hb hby at_93) rfl ?_
  refine XS.iload X53.here hx rfl (hb hby at_94) rfl ?_
  refine st54 _ ?_
  refine XS.ifYes X54.here hx rfl (pc0 := 99) (pc' := 106) rfl (hb hby at_99) rfl ((if0 _ _).trans (teq hc51).1) (by decide) (by decide) ?_
  refine XS.iconst X54.here hx rfl (hb hby at_106) ?_
  refine XS.istore X54.here hx rfl (hb hby at_107) rfl (l' := #[iv i0, iv i1, iv i2, iv i3, iv i4, iv i0, iv i3, rv b3, iv (0 : Int32), iv (1 : Int32), iv (0 : Int32)]) rfl ?_
  refine XS.iload X54.here hx rfl (hb hby at_109) rfl ?_
  refine XS.iload X54.here hx rfl (hb hby at_111) rfl ?_
  refine XS.icmpNo X54.here hx rfl (hb hby at_113) rfl (teq (rfl : (0 : Int32) = (0 : Int32))).2 ?_
  refine XS.iconst X54.here hx rfl (hb hby at_116) ?_
  show St p e below T54 m 117 #[iv i0, iv i1, iv i2, iv i3, iv i4, iv i0, iv i3, rv b3, iv (0 : Int32), iv (1 : Int32), iv (0 : Int32)] [(.int (1 : Int32))] _
  refine XS.goto X54.here hx rfl (pc0 := 117) (pc' := 121) rfl (hb hby at_117) (by decide) (by decide) ?_
  exact retN X54 hx (t := .boolean) Bd.returns (by simp) (hb hby at_121) hr
set_option maxRecDepth 65536 in
set_option maxHeartbeats 40000000 in
theorem law_4 (l : Launch) (Z : State) (a0 : Array Value) (hw : HW a0 Z) (ws : List Jvm.Cond) (zCOMPACT_STRINGS : Int32) (B : Base Z zCOMPACT_STRINGS) (i0 : Int32) (i1 : Int32) (i2 : Int32) (i3 : Int32) (i4 : Int32) (h0 : Heap) (n0 : Nat) (O0 : Old Z n0 h0) (hc1 : (i4 &&& (1 : Int32)) = (0 : Int32)) (hc2 : ¬ ((i4 &&& (2 : Int32)) = (0 : Int32))) (hc44 : ¬ ((own_eqc (own_tl i0) (own_tl i1)) = (0 : Int32))) (hc51 : ¬ ((own_eqc (own_tl i2) (own_tl i2)) = (0 : Int32))) :
    MFH l x code maxLocals ret ws room_1 Z #[(.int i0), (.int i1), (.int i2), (.int i3), (.int i4)] h0 (lawQ n0) := by
  refine own_inH (plainFor_of_name pn_com_example_agave_agave_store_StoredRequestIsSameRequestPinLaw) #[iv i0, iv i1, iv i2, iv i3, iv i4, un, un, un, un, un, un] (fun _ => by first | (simp [entryFrame, mkF, argsToLocals, Value.category, maxLocals]; done) | rfl) ?_
  intro p e s m below meth c s₁ Bd hx hby hml hown hnm hZ hh C0 e0 X0
  have N0 := Fr.nil n0
  obtain ⟨B0, B1⟩ := B
  obtain ⟨T3, h3, X3, e3, E3, A3, D3, -, st3⟩ := newO X0 hx hZ hown (ow hw 0 rfl) (ow hw 1 rfl) (ow hw 2 rfl) e0 (g := (mkF m 28 #[iv i0, iv i1, iv i2, iv i3, iv i4, iv i1, iv i2, un, un, un, un] [])) rfl (hb hby at_28) (by decide) (by decide)
  obtain ⟨b3, g3⟩ : ∃ z, z = h0.size := ⟨_, rfl⟩
  rw [← g3] at A3 D3 st3
  have O_E3 : Old Z n0 h3 := O0.ext E3
  have Kp_E3 : Keep h0 h3 [] := (Keep.refl h0 []).ext E3
  have c_E3 := CHr.ext E3 C0.1
  have C_E3 := C0.trans c_E3
  obtain ⟨T5, Lc5, _, X5, hSq5, hg5, Cq5, hQ5, st5⟩ := flH X3 (Jvm.RoadKit.callSS X3 hx (y := y0) hown (mvT hZ (ow hw 3 rfl)) (mvT hZ (ow hw 4 rfl)) (mvT hZ (ow hw 5 rfl)) (mvT hZ (ow hw 6 rfl)) (by decide) (backOfSH (s := s) (vm0 := s.vm) (W := 2) (own_text l Z a0 hw [] i0 zCOMPACT_STRINGS h3 n0 O_E3 B0 B1) hZ (ow hw 6 rfl) (ow hw 5 rfl) (by decide) (by decide) (own_EW hw) C_E3.1) (g := (mkF m 33 #[iv i0, iv i1, iv i2, iv i3, iv i4, iv i1, iv i2, un, un, un, un] [(.int i0), (.ref b3), (.ref b3)])) rfl (by rw [hml]; rfl) (argsL := [(.int i0)]) (rest := [(.ref b3), (.ref b3)]) (lenOf pd__I_Ljava_lang_String_ rfl) rfl wf (hb hby at_33) (fun _ _ => ⟨rfl, e3, (by decide : 1 + 6 ≤ _), (by decide : 5 + 12 ≤ _)⟩))
  obtain ⟨Y5, hS5, hZ5, hown5⟩ := rebS (s := s) (vm0 := s.vm) (State.WarmedH.since (State.WarmedH.refl s) 0) (by rw [e3]; exact (Nat.zero_le _)) X5 hSq5 hg5 hZ hown
  obtain ⟨b5_0, b5_1, k5_0, rfl, N5q, K5, lo5_1, f5_2, f5_3, f5_4, f5_5⟩ := hQ5
  have N5 := Fr.app N0 N5q
  have O_K5 : Old Z n0 T5.heap := O_E3.keep K5 all0
  have Kp_K5 : Keep h0 T5.heap [] := Kp_E3.trans K5 all0
  have c_K5 := Cq5
  have C_K5 := C_E3.trans c_K5
  have f6 := (A3.keep K5)
  have ne7 := Exa.neArv f6 f5_5 (ow hw 1 rfl)
  obtain ⟨T8, Lc8, _, X8, hSq8, hg8, Cq8, hQ8, st8⟩ := flH Y5 (Jvm.RoadKit.callSS Y5 hx (y := y0) hown5 (mvT hZ5 (ow hw 3 rfl)) (mvT hZ5 (ow hw 4 rfl)) (mvT hZ5 (ow hw 5 rfl)) (mvT hZ5 (ow hw 6 rfl)) (by decide) (backOfSH (s := s) (vm0 := T5.vm) (W := 3) (own_text l Z a0 hw [] i2 zCOMPACT_STRINGS T5.heap n0 O_K5 B0 B1) hZ5 (ow hw 6 rfl) (ow hw 5 rfl) (by decide) (by decide) (own_EW hw) C_K5.1) (g := (mkF m 37 #[iv i0, iv i1, iv i2, iv i3, iv i4, iv i1, iv i2, un, un, un, un] [(.int i2), (.ref b5_0), (.ref b3), (.ref b3)])) rfl (by rw [hml]; rfl) (argsL := [(.int i2)]) (rest := [(.ref b5_0), (.ref b3), (.ref b3)]) (lenOf pd__I_Ljava_lang_String_ rfl) rfl wf (hb hby at_37) (fun _ _ => ⟨rfl, rfl, (by decide : 7 + 6 ≤ _), (by decide : 17 + 12 ≤ _)⟩))
  obtain ⟨Y8, hS8, hZ8, hown8⟩ := rebS (s := s) (vm0 := T5.vm) hS5 (Nat.le_refl _) X8 hSq8 hg8 hZ5 hown5
  obtain ⟨b8_0, b8_1, k8_0, rfl, N8q, K8, lo8_1, f8_2, f8_3, f8_4, f8_5⟩ := hQ8
  have N8 := Fr.app N5 N8q
  have O_K8 : Old Z n0 T8.heap := O_K5.keep K8 all0
  have Kp_K8 : Keep h0 T8.heap [] := Kp_K5.trans K8 all0
  have c_K8 := Cq8
  have C_K8 := C_K5.trans c_K8
  have f9 := (f5_2.keep K8)
  have ne10 := Exa.neArv f9 f8_5 (ow hw 11 rfl)
  have f11 := (f6.keep K8)
  have ne12 := Exa.neArv f11 f8_5 (ow hw 1 rfl)
  have f13 : xF5 Z h3 b3 .null := D3 (Or.inr (ow hw 59 rfl)) (ty := (.object "java/lang/String")) (by decide)
  have f14 := ((f13.keep K5 nin0).keep K8 nin0)
  have g15 : n0 ≤ b3 := Nat.le_trans (Nat.le_trans (Nat.le_of_eq O0.1.symm) O0.2.1) (Nat.le_of_eq g3.symm)
  have f16 : xF7 Z h3 b3 .null := D3 (Or.inr (ow hw 61 rfl)) (ty := (.object "java/lang/String")) (by decide)
  have f17 := ((f16.keep K5 nin0).keep K8 nin0)
  have f18 : xF8 Z h3 b3 .null := D3 (Or.inr (ow hw 63 rfl)) (ty := (.object "java/util/Optional")) (by decide)
  have f19 := ((f18.keep K5 nin0).keep K8 nin0)
  have f20 : xF9 Z h3 b3 .null := D3 (Or.inr (ow hw 65 rfl)) (ty := (.object "java/util/Optional")) (by decide)
  have f21 := ((f20.keep K5 nin0).keep K8 nin0)
  have f22 : xF10 Z h3 b3 .null := D3 (Or.inr (ow hw 67 rfl)) (ty := (.object "java/util/Optional")) (by decide)
  have f23 := ((f22.keep K5 nin0).keep K8 nin0)
  obtain ⟨T24, Lc24, _, X24, hQ24, st24⟩ := fl Y8 (Y8.specialBack hx (y := y13) rfl hown8 (mvT hZ8 (ow hw 49 rfl)) (mvT hZ8 (ow hw 50 rfl)) (mvT hZ8 (ow hw 51 rfl)) (by decide) (backOf (W := 1) (r13_1 l Z a0 hw [] b3 b5_0 b8_0 T8.heap n0 O_K8 f14 f11 g15 f17 f19 f21 f23) hZ8 (ow hw 51 rfl) (ow hw 2 rfl) (by decide) (by decide)) (g := (mkF m 43 #[iv i0, iv i1, iv i2, iv i3, iv i4, iv i1, iv i2, un, un, un, un] [.null, .null, .null, (.ref b8_0), (.ref b5_0), (.ref b3), (.ref b3)])) rfl (by rw [hml]; rfl) (Steps.refl _) (a := b3) (argsL := [(.ref b5_0), (.ref b8_0), .null, .null, .null]) (rest := [(.ref b3)]) (lenOf pd__Ljava_lang_String_Ljava_lang_String_Ljava_util_Optional_Ljava_util_Optional_Ljava_util_Optional__V rfl) rfl wf (hb hby at_43) (fun _ _ => ⟨rfl, rfl, (by decide : 13 + 0 ≤ _), (by decide : 29 + 0 ≤ _)⟩))
  obtain ⟨rfl, N24q, K24, f24_1, f24_2, f24_3, f24_4, f24_5, f24_6⟩ := hQ24
  have N24 := Fr.app N8 N24q
  have sf25 := (c_K8.safe (A3.keep K5).lt (c_K5.safe A3.lt (Safe.ext E3 C0.1 (Safe.new (Nat.le_of_eq g3.symm)))))
  have z26 : h0.size ≤ b3 := Nat.le_trans (Keep.refl h0 []).1 (Nat.le_of_eq g3.symm)
  have O_K24 : Old Z n0 T24.heap := O_K8.keep K24 (allS g15 all0)
  have Kp_K24 : Keep h0 T24.heap [] := Kp_K8.trans K24 (allS (Or.inr z26) all0)
  have c_K24 := CHr.keep K24 (allS sf25 all0) C_K8.1
  have C_K24 := C_K8.trans c_K24
  obtain ⟨T27, Lc27, _, X27, hSq27, hg27, Cq27, hQ27, st27⟩ := flH X24 (Jvm.RoadKit.callSS X24 hx (y := y0) hown8 (mvT hZ8 (ow hw 3 rfl)) (mvT hZ8 (ow hw 4 rfl)) (mvT hZ8 (ow hw 5 rfl)) (mvT hZ8 (ow hw 6 rfl)) (by decide) (backOfSH (s := s) (vm0 := T8.vm) (W := 1) (own_text l Z a0 hw [] i1 zCOMPACT_STRINGS T24.heap n0 O_K24 B0 B1) hZ8 (ow hw 6 rfl) (ow hw 5 rfl) (by decide) (by decide) (own_EW hw) C_K24.1) (g := (mkF m 52 #[iv i0, iv i1, iv i2, iv i3, iv i4, iv i1, iv i2, rv b3, un, un, un] [(.int i1), (.ref b3)])) rfl (by rw [hml]; rfl) (argsL := [(.int i1)]) (rest := [(.ref b3)]) (lenOf pd__I_Ljava_lang_String_ rfl) rfl wf (hb hby at_52) (fun _ _ => ⟨rfl, rfl, (by decide : 13 + 6 ≤ _), (by decide : 29 + 12 ≤ _)⟩))
  obtain ⟨Y27, hS27, hZ27, hown27⟩ := rebS (s := s) (vm0 := T8.vm) hS8 (Nat.le_trans (Nat.le_refl _) K24.1) X27 hSq27 hg27 hZ8 hown8
  obtain ⟨b27_0, b27_1, k27_0, rfl, N27q, K27, lo27_1, f27_2, f27_3, f27_4, f27_5⟩ := hQ27
  have N27 := Fr.app N24 N27q
  have O_K27 : Old Z n0 T27.heap := O_K24.keep K27 all0
  have Kp_K27 : Keep h0 T27.heap [] := Kp_K24.trans K27 all0
  have c_K27 := Cq27
  have C_K27 := C_K24.trans c_K27
  have f28 := (f24_2.keep K27)
  have ne29 := Exa.neArv f28 f27_5 (ow hw 1 rfl)
  obtain ⟨T30, Lc30, _, X30, hSq30, hg30, Cq30, hQ30, st30⟩ := flH Y27 (Jvm.RoadKit.callSS Y27 hx (y := y0) hown27 (mvT hZ27 (ow hw 3 rfl)) (mvT hZ27 (ow hw 4 rfl)) (mvT hZ27 (ow hw 5 rfl)) (mvT hZ27 (ow hw 6 rfl)) (by decide) (backOfSH (s := s) (vm0 := T27.vm) (W := 2) (own_text l Z a0 hw [] i2 zCOMPACT_STRINGS T27.heap n0 O_K27 B0 B1) hZ27 (ow hw 6 rfl) (ow hw 5 rfl) (by decide) (by decide) (own_EW hw) C_K27.1) (g := (mkF m 57 #[iv i0, iv i1, iv i2, iv i3, iv i4, iv i1, iv i2, rv b3, un, un, un] [(.int i2), (.ref b27_0), (.ref b3)])) rfl (by rw [hml]; rfl) (argsL := [(.int i2)]) (rest := [(.ref b27_0), (.ref b3)]) (lenOf pd__I_Ljava_lang_String_ rfl) rfl wf (hb hby at_57) (fun _ _ => ⟨rfl, rfl, (by decide : 19 + 6 ≤ _), (by decide : 41 + 12 ≤ _)⟩))
  obtain ⟨Y30, hS30, hZ30, hown30⟩ := rebS (s := s) (vm0 := T27.vm) hS27 (Nat.le_refl _) X30 hSq30 hg30 hZ27 hown27
  obtain ⟨b30_0, b30_1, k30_0, rfl, N30q, K30, lo30_1, f30_2, f30_3, f30_4, f30_5⟩ := hQ30
  have N30 := Fr.app N27 N30q
  have O_K30 : Old Z n0 T30.heap := O_K27.keep K30 all0
  have Kp_K30 : Keep h0 T30.heap [] := Kp_K27.trans K30 all0
  have c_K30 := Cq30
  have C_K30 := C_K27.trans c_K30
  have f31 := (f28.keep K30)
  have ne32 := Exa.neArv f31 f30_5 (ow hw 1 rfl)
  have f33 := (f27_2.keep K30)
  have ne34 := Exa.neArv f33 f30_5 (ow hw 11 rfl)
  have f35 := ((f24_1.keep K27 nin0).keep K30 nin0)
  have f36 := (((f9.keep K24).keep K27).keep K30)
  have ne37 : b3 ≠ b5_0 := Nat.ne_of_lt (Nat.lt_of_lt_of_le A3.lt lo5_1)
  have f38 := ((((f5_3.keep K8 nin0).keep K24 (ninS (Ne.symm ne37) nin0)).keep K27 nin0).keep K30 nin0)
  have f39 := ((((f5_4.keep K8 nin0).keep K24 (ninS (Ne.symm ne37) nin0)).keep K27 nin0).keep K30 nin0)
  have f40 := ((((f5_5.keep K8 nin0).keep K24 (ninS (Ne.symm ne7) nin0)).keep K27 nin0).keep K30 nin0)
  have f41 := (f27_3.keep K30 nin0)
  have f42 := (f27_4.keep K30 nin0)
  have f43 := (f27_5.keep K30 nin0)
  have f45 := ((f24_3.keep K27 nin0).keep K30 nin0)
  have f46 := (((f8_2.keep K24).keep K27).keep K30)
  have ne47 : b3 ≠ b8_0 := Nat.ne_of_lt (Nat.lt_of_lt_of_le (A3.keep K5).lt lo8_1)
  have f48 := (((f8_3.keep K24 (ninS (Ne.symm ne47) nin0)).keep K27 nin0).keep K30 nin0)
  have f49 := (((f8_4.keep K24 (ninS (Ne.symm ne47) nin0)).keep K27 nin0).keep K30 nin0)
  have f50 := (((f8_5.keep K24 (ninS (Ne.symm ne12) nin0)).keep K27 nin0).keep K30 nin0)
  obtain ⟨cq52, kq52, q52a, q52b, q52c⟩ := isOf hZ30 rfl f31
  obtain ⟨T52, Lc52, _, X52, hSq52, hg52, Cq52, hQ52, st52⟩ := flH Y30 (Y30.virtualBackS hx (y := y15) (z := y15) hown30 (mvT hZ30 (ow hw 82 rfl)) (mvT hZ30 (ow hw 83 rfl)) (notFace_of_selects (args := #[]) (mvT hZ30 (ow hw 85 rfl))) (mvT hZ30 (ow hw 85 rfl)) (mvT hZ30 (ow hw 84 rfl)) (by decide) (backOfSH (s := s) (vm0 := T30.vm) (W := 0) (r15_1 l Z a0 hw [] b3 b27_0 b30_0 b5_0 b5_1 k5_0 (own_tl i0) b27_1 k27_0 (own_tl i1) zCOMPACT_STRINGS b8_0 b8_1 k8_0 (own_tl i2) b30_1 k30_0 (own_tl i2) T30.heap n0 O_K30 f35 f36 f38 f39 f40 (own_gt _) f33 f41 f42 f43 (own_gt _) B0 B1 hc44 f45 f46 f48 f49 f50 (own_gt _) f30_2 f30_3 f30_4 f30_5 (own_gt _) hc51) hZ30 (ow hw 86 rfl) (ow hw 2 rfl) (by decide) (by decide) (own_EW hw) C_K30.1) q52a q52c (g := (mkF m 60 #[iv i0, iv i1, iv i2, iv i3, iv i4, iv i1, iv i2, rv b3, un, un, un] [(.ref b30_0), (.ref b27_0), (.ref b3)])) rfl (by rw [hml]; rfl) (Steps.refl _) (argsL := [(.ref b27_0), (.ref b30_0)]) (rest := []) (lenOf pd__Ljava_lang_String_Ljava_lang_String__Z rfl) rfl wf (hb hby at_60) (fun _ _ => ⟨rfl, rfl, (by decide : 25 + 0 ≤ _), (by decide : 53 + 0 ≤ _)⟩))
  obtain ⟨Y52, hS52, hZ52, hown52⟩ := rebS (s := s) (vm0 := T30.vm) hS30 (Nat.le_refl _) X52 hSq52 hg52 hZ30 hown30
  obtain ⟨rfl, N52q, K52⟩ := hQ52
  have N52 := Fr.app N30 N52q
  have O_K52 : Old Z n0 T52.heap := O_K30.keep K52 all0
  have Kp_K52 : Keep h0 T52.heap [] := Kp_K30.trans K52 all0
  have c_K52 := Cq52
  have C_K52 := C_K30.trans c_K52
  obtain ⟨T53, Lc53, _, X53, hQ53, st53⟩ := flC Y52 (Jvm.LawKit.callS Y52 hx (y := y17) hown52 (mvT hZ52 (ow hw 95 rfl)) (mvT hZ52 (ow hw 96 rfl)) (mvT hZ52 (ow hw 5 rfl)) (mvT hZ52 (ow hw 97 rfl)) (by decide) (backOf (W := 0) (own_same l Z a0 hw [] i0 i1 T52.heap n0 O_K52) hZ52 (ow hw 97 rfl) (ow hw 5 rfl) (by decide) (by decide)) (g := (mkF m 68 #[iv i0, iv i1, iv i2, iv i3, iv i4, iv i1, iv i2, rv b3, iv (1 : Int32), un, un] [(.int i1), (.int i0)])) rfl (by rw [hml]; rfl) (argsL := [(.int i0), (.int i1)]) (rest := []) (lenOf pd__II_Z rfl) rfl wf (hb hby at_68) (fun _ _ => ⟨rfl, rfl, (by decide : 25 + 0 ≤ _), (by decide : 53 + 0 ≤ _)⟩))
  obtain ⟨rfl, N53q, e53⟩ := hQ53
  have N53 := Fr.app N52 N53q
  obtain ⟨T54, Lc54, _, X54, hQ54, st54⟩ := flC X53 (Jvm.LawKit.callS X53 hx (y := y17) hown52 (mvT hZ52 (ow hw 95 rfl)) (mvT hZ52 (ow hw 96 rfl)) (mvT hZ52 (ow hw 5 rfl)) (mvT hZ52 (ow hw 97 rfl)) (by decide) (backOf (W := 0) (own_same l Z a0 hw [] i2 i2 T52.heap n0 O_K52) hZ52 (ow hw 97 rfl) (ow hw 5 rfl) (by decide) (by decide)) (g := (mkF m 96 #[iv i0, iv i1, iv i2, iv i3, iv i4, iv i1, iv i2, rv b3, iv (1 : Int32), iv (1 : Int32), un] [(.int i2), (.int i2)])) rfl (by rw [hml]; rfl) (argsL := [(.int i2), (.int i2)]) (rest := []) (lenOf pd__II_Z rfl) rfl wf (hb hby at_96) (fun _ _ => ⟨rfl, e53, (by decide : 25 + 0 ≤ _), (by decide : 53 + 0 ≤ _)⟩))
  obtain ⟨rfl, N54q, e54⟩ := hQ54
  have N54 := Fr.app N53 N54q
  refine finH (Q := lawQ n0) (rm := room_1) (vm := T52.vm) Bd X54 hZ52 (own_EW hw) C_K52 hh e54 hS52 (Nat.le_refl _) (some (.int (1 : Int32))) nofun ⟨rfl, N54⟩ (by decide) (by decide) fun fs hr => ?_
  show St p e below s₁ m 0 #[iv i0, iv i1, iv i2, iv i3, iv i4, un, un, un, un, un, un] [] _
  refine XS.iload X0.here hx rfl (hb hby at_0) rfl ?_
  refine XS.iconst X0.here hx rfl (hb hby at_2) ?_
  refine XS.iand X0.here hx rfl (hb hby at_3) rfl ?_
  refine XS.ifYes X0.here hx rfl (pc0 := 4) (pc' := 11) rfl (hb hby at_4) rfl ((if0 _ _).trans (teq hc1).1) (by decide) (by decide) ?_
  refine XS.iloadN X0.here hx rfl (hb hby at_11) rfl ?_
  refine XS.istore X0.here hx rfl (hb hby at_12) rfl (l' := #[iv i0, iv i1, iv i2, iv i3, iv i4, iv i1, un, un, un, un, un]) rfl ?_
  refine XS.iload X0.here hx rfl (hb hby at_14) rfl ?_
  refine XS.iconst X0.here hx rfl (hb hby at_16) ?_
  refine XS.iand X0.here hx rfl (hb hby at_17) rfl ?_
  refine XS.ifNo X0.here hx rfl (hb hby at_18) rfl ((if0 _ _).trans (feq hc2).1) ?_
  refine XS.iloadN X0.here hx rfl (hb hby at_21) rfl ?_
  refine XS.goto X0.here hx rfl (pc0 := 22) (pc' := 26) rfl (hb hby at_22) (by decide) (by decide) ?_
  refine XS.istore X0.here hx rfl (hb hby at_26) rfl (l' := #[iv i0, iv i1, iv i2, iv i3, iv i4, iv i1, iv i2, un, un, un, un]) rfl ?_
  refine st3 _ ?_
  refine XS.dup X3.here hx rfl (hb hby at_31) rfl rfl ?_
  refine XS.iloadN X3.here hx rfl (hb hby at_32) rfl ?_
  refine st5.trans ?_
  refine XS.iloadN Y5.here hx rfl (hb hby at_36) rfl ?_
  refine st8.trans ?_
  refine XS.aconstNull Y8.here hx rfl (hb hby at_40) ?_
  refine XS.aconstNull Y8.here hx rfl (hb hby at_41) ?_
  refine XS.aconstNull Y8.here hx rfl (hb hby at_42) ?_
  refine st24.trans ?_
  refine XS.astore X24.here hx rfl (hb hby at_46) rfl rfl (l' := #[iv i0, iv i1, iv i2, iv i3, iv i4, iv i1, iv i2, rv b3, un, un, un]) rfl ?_
  refine XS.aload X24.here hx rfl (hb hby at_48) rfl rfl ?_
  show St p e below T24 m 50 #[iv i0, iv i1, iv i2, iv i3, iv i4, iv i1, iv i2, rv b3, un, un, un] [(.ref b3)] _
  refine XS.iload X24.here hx rfl (hb hby at_50) rfl ?_
  refine st27.trans ?_
  refine XS.iload Y27.here hx rfl (hb hby at_55) rfl ?_
  refine st30.trans ?_
  refine st52.trans ?_
  refine XS.istore Y52.here hx rfl (hb hby at_63) rfl (l' := #[iv i0, iv i1, iv i2, iv i3, iv i4, iv i1, iv i2, rv b3, iv (1 : Int32), un, un]) rfl ?_
  refine XS.iloadN Y52.here hx rfl (hb hby at_65) rfl ?_
  refine XS.iload Y52.here hx rfl (hb hby at_66) rfl ?_
  refine st53 _ ?_
  refine XS.ifYes X53.here hx rfl (pc0 := 71) (pc' := 81) rfl (hb hby at_71) rfl ((if0 _ _).trans (feq hc44).2) (by decide) (by decide) ?_
  refine XS.iconst X53.here hx rfl (hb hby at_81) ?_
  refine XS.goto X53.here hx rfl (pc0 := 82) (pc' := 86) rfl (hb hby at_82) (by decide) (by decide) ?_
  refine XS.istore X53.here hx rfl (hb hby at_86) rfl (l' := #[iv i0, iv i1, iv i2, iv i3, iv i4, iv i1, iv i2, rv b3, iv (1 : Int32), iv (1 : Int32), un]) rfl ?_
  refine XS.iload X53.here hx rfl (hb hby at_88) rfl ?_
  refine XS.ifNo X53.here hx rfl (hb hby at_90) rfl ((if0 _ _).trans (feq (by decide : ¬ ((1 : Int32) = (0 : Int32)))).1) ?_
  refine XS.iloadN X53.here hx rfl (hb hby at_93) rfl ?_
  refine XS.iload X53.here hx rfl (hb hby at_94) rfl ?_
  refine st54 _ ?_
  refine XS.ifNo X54.here hx rfl (hb hby at_99) rfl ((if0 _ _).trans (feq hc51).1) ?_
  refine XS.iconst X54.here hx rfl (hb hby at_102) ?_
  refine XS.goto X54.here hx rfl (pc0 := 103) (pc' := 107) rfl (hb hby at_103) (by decide) (by decide) ?_
  refine XS.istore X54.here hx rfl (hb hby at_107) rfl (l' := #[iv i0, iv i1, iv i2, iv i3, iv i4, iv i1, iv i2, rv b3, iv (1 : Int32), iv (1 : Int32), iv (1 : Int32)]) rfl ?_
  refine XS.iload X54.here hx rfl (hb hby at_109) rfl ?_
  refine XS.iload X54.here hx rfl (hb hby at_111) rfl ?_
  refine XS.icmpNo X54.here hx rfl (hb hby at_113) rfl (teq (rfl : (1 : Int32) = (1 : Int32))).2 ?_
  show St p e below T54 m 116 #[iv i0, iv i1, iv i2, iv i3, iv i4, iv i1, iv i2, rv b3, iv (1 : Int32), iv (1 : Int32), iv (1 : Int32)] [] _
  refine XS.iconst X54.here hx rfl (hb hby at_116) ?_
  refine XS.goto X54.here hx rfl (pc0 := 117) (pc' := 121) rfl (hb hby at_117) (by decide) (by decide) ?_
  exact retN X54 hx (t := .boolean) Bd.returns (by simp) (hb hby at_121) hr
set_option maxRecDepth 65536 in
set_option maxHeartbeats 40000000 in
theorem law_5 (l : Launch) (Z : State) (a0 : Array Value) (hw : HW a0 Z) (ws : List Jvm.Cond) (zCOMPACT_STRINGS : Int32) (B : Base Z zCOMPACT_STRINGS) (i0 : Int32) (i1 : Int32) (i2 : Int32) (i3 : Int32) (i4 : Int32) (h0 : Heap) (n0 : Nat) (O0 : Old Z n0 h0) (hc1 : (i4 &&& (1 : Int32)) = (0 : Int32)) (hc2 : (i4 &&& (2 : Int32)) = (0 : Int32)) (hc44 : ¬ ((own_eqc (own_tl i0) (own_tl i1)) = (0 : Int32))) (hc51 : ¬ ((own_eqc (own_tl i2) (own_tl i3)) = (0 : Int32))) :
    MFH l x code maxLocals ret ws room_1 Z #[(.int i0), (.int i1), (.int i2), (.int i3), (.int i4)] h0 (lawQ n0) := by
  refine own_inH (plainFor_of_name pn_com_example_agave_agave_store_StoredRequestIsSameRequestPinLaw) #[iv i0, iv i1, iv i2, iv i3, iv i4, un, un, un, un, un, un] (fun _ => by first | (simp [entryFrame, mkF, argsToLocals, Value.category, maxLocals]; done) | rfl) ?_
  intro p e s m below meth c s₁ Bd hx hby hml hown hnm hZ hh C0 e0 X0
  have N0 := Fr.nil n0
  obtain ⟨B0, B1⟩ := B
  obtain ⟨T3, h3, X3, e3, E3, A3, D3, -, st3⟩ := newO X0 hx hZ hown (ow hw 0 rfl) (ow hw 1 rfl) (ow hw 2 rfl) e0 (g := (mkF m 28 #[iv i0, iv i1, iv i2, iv i3, iv i4, iv i1, iv i3, un, un, un, un] [])) rfl (hb hby at_28) (by decide) (by decide)
  obtain ⟨b3, g3⟩ : ∃ z, z = h0.size := ⟨_, rfl⟩
  rw [← g3] at A3 D3 st3
  have O_E3 : Old Z n0 h3 := O0.ext E3
  have Kp_E3 : Keep h0 h3 [] := (Keep.refl h0 []).ext E3
  have c_E3 := CHr.ext E3 C0.1
  have C_E3 := C0.trans c_E3
  obtain ⟨T5, Lc5, _, X5, hSq5, hg5, Cq5, hQ5, st5⟩ := flH X3 (Jvm.RoadKit.callSS X3 hx (y := y0) hown (mvT hZ (ow hw 3 rfl)) (mvT hZ (ow hw 4 rfl)) (mvT hZ (ow hw 5 rfl)) (mvT hZ (ow hw 6 rfl)) (by decide) (backOfSH (s := s) (vm0 := s.vm) (W := 2) (own_text l Z a0 hw [] i0 zCOMPACT_STRINGS h3 n0 O_E3 B0 B1) hZ (ow hw 6 rfl) (ow hw 5 rfl) (by decide) (by decide) (own_EW hw) C_E3.1) (g := (mkF m 33 #[iv i0, iv i1, iv i2, iv i3, iv i4, iv i1, iv i3, un, un, un, un] [(.int i0), (.ref b3), (.ref b3)])) rfl (by rw [hml]; rfl) (argsL := [(.int i0)]) (rest := [(.ref b3), (.ref b3)]) (lenOf pd__I_Ljava_lang_String_ rfl) rfl wf (hb hby at_33) (fun _ _ => ⟨rfl, e3, (by decide : 1 + 6 ≤ _), (by decide : 5 + 12 ≤ _)⟩))
  obtain ⟨Y5, hS5, hZ5, hown5⟩ := rebS (s := s) (vm0 := s.vm) (State.WarmedH.since (State.WarmedH.refl s) 0) (by rw [e3]; exact (Nat.zero_le _)) X5 hSq5 hg5 hZ hown
  obtain ⟨b5_0, b5_1, k5_0, rfl, N5q, K5, lo5_1, f5_2, f5_3, f5_4, f5_5⟩ := hQ5
  have N5 := Fr.app N0 N5q
  have O_K5 : Old Z n0 T5.heap := O_E3.keep K5 all0
  have Kp_K5 : Keep h0 T5.heap [] := Kp_E3.trans K5 all0
  have c_K5 := Cq5
  have C_K5 := C_E3.trans c_K5
  have f6 := (A3.keep K5)
  have ne7 := Exa.neArv f6 f5_5 (ow hw 1 rfl)
  obtain ⟨T8, Lc8, _, X8, hSq8, hg8, Cq8, hQ8, st8⟩ := flH Y5 (Jvm.RoadKit.callSS Y5 hx (y := y0) hown5 (mvT hZ5 (ow hw 3 rfl)) (mvT hZ5 (ow hw 4 rfl)) (mvT hZ5 (ow hw 5 rfl)) (mvT hZ5 (ow hw 6 rfl)) (by decide) (backOfSH (s := s) (vm0 := T5.vm) (W := 3) (own_text l Z a0 hw [] i2 zCOMPACT_STRINGS T5.heap n0 O_K5 B0 B1) hZ5 (ow hw 6 rfl) (ow hw 5 rfl) (by decide) (by decide) (own_EW hw) C_K5.1) (g := (mkF m 37 #[iv i0, iv i1, iv i2, iv i3, iv i4, iv i1, iv i3, un, un, un, un] [(.int i2), (.ref b5_0), (.ref b3), (.ref b3)])) rfl (by rw [hml]; rfl) (argsL := [(.int i2)]) (rest := [(.ref b5_0), (.ref b3), (.ref b3)]) (lenOf pd__I_Ljava_lang_String_ rfl) rfl wf (hb hby at_37) (fun _ _ => ⟨rfl, rfl, (by decide : 7 + 6 ≤ _), (by decide : 17 + 12 ≤ _)⟩))
  obtain ⟨Y8, hS8, hZ8, hown8⟩ := rebS (s := s) (vm0 := T5.vm) hS5 (Nat.le_refl _) X8 hSq8 hg8 hZ5 hown5
  obtain ⟨b8_0, b8_1, k8_0, rfl, N8q, K8, lo8_1, f8_2, f8_3, f8_4, f8_5⟩ := hQ8
  have N8 := Fr.app N5 N8q
  have O_K8 : Old Z n0 T8.heap := O_K5.keep K8 all0
  have Kp_K8 : Keep h0 T8.heap [] := Kp_K5.trans K8 all0
  have c_K8 := Cq8
  have C_K8 := C_K5.trans c_K8
  have f9 := (f5_2.keep K8)
  have ne10 := Exa.neArv f9 f8_5 (ow hw 11 rfl)
  have f11 := (f6.keep K8)
  have ne12 := Exa.neArv f11 f8_5 (ow hw 1 rfl)
  have f13 : xF5 Z h3 b3 .null := D3 (Or.inr (ow hw 59 rfl)) (ty := (.object "java/lang/String")) (by decide)
  have f14 := ((f13.keep K5 nin0).keep K8 nin0)
  have g15 : n0 ≤ b3 := Nat.le_trans (Nat.le_trans (Nat.le_of_eq O0.1.symm) O0.2.1) (Nat.le_of_eq g3.symm)
  have f16 : xF7 Z h3 b3 .null := D3 (Or.inr (ow hw 61 rfl)) (ty := (.object "java/lang/String")) (by decide)
  have f17 := ((f16.keep K5 nin0).keep K8 nin0)
  have f18 : xF8 Z h3 b3 .null := D3 (Or.inr (ow hw 63 rfl)) (ty := (.object "java/util/Optional")) (by decide)
  have f19 := ((f18.keep K5 nin0).keep K8 nin0)
  have f20 : xF9 Z h3 b3 .null := D3 (Or.inr (ow hw 65 rfl)) (ty := (.object "java/util/Optional")) (by decide)
  have f21 := ((f20.keep K5 nin0).keep K8 nin0)
  have f22 : xF10 Z h3 b3 .null := D3 (Or.inr (ow hw 67 rfl)) (ty := (.object "java/util/Optional")) (by decide)
  have f23 := ((f22.keep K5 nin0).keep K8 nin0)
  obtain ⟨T24, Lc24, _, X24, hQ24, st24⟩ := fl Y8 (Y8.specialBack hx (y := y13) rfl hown8 (mvT hZ8 (ow hw 49 rfl)) (mvT hZ8 (ow hw 50 rfl)) (mvT hZ8 (ow hw 51 rfl)) (by decide) (backOf (W := 1) (r13_1 l Z a0 hw [] b3 b5_0 b8_0 T8.heap n0 O_K8 f14 f11 g15 f17 f19 f21 f23) hZ8 (ow hw 51 rfl) (ow hw 2 rfl) (by decide) (by decide)) (g := (mkF m 43 #[iv i0, iv i1, iv i2, iv i3, iv i4, iv i1, iv i3, un, un, un, un] [.null, .null, .null, (.ref b8_0), (.ref b5_0), (.ref b3), (.ref b3)])) rfl (by rw [hml]; rfl) (Steps.refl _) (a := b3) (argsL := [(.ref b5_0), (.ref b8_0), .null, .null, .null]) (rest := [(.ref b3)]) (lenOf pd__Ljava_lang_String_Ljava_lang_String_Ljava_util_Optional_Ljava_util_Optional_Ljava_util_Optional__V rfl) rfl wf (hb hby at_43) (fun _ _ => ⟨rfl, rfl, (by decide : 13 + 0 ≤ _), (by decide : 29 + 0 ≤ _)⟩))
  obtain ⟨rfl, N24q, K24, f24_1, f24_2, f24_3, f24_4, f24_5, f24_6⟩ := hQ24
  have N24 := Fr.app N8 N24q
  have sf25 := (c_K8.safe (A3.keep K5).lt (c_K5.safe A3.lt (Safe.ext E3 C0.1 (Safe.new (Nat.le_of_eq g3.symm)))))
  have z26 : h0.size ≤ b3 := Nat.le_trans (Keep.refl h0 []).1 (Nat.le_of_eq g3.symm)
  have O_K24 : Old Z n0 T24.heap := O_K8.keep K24 (allS g15 all0)
  have Kp_K24 : Keep h0 T24.heap [] := Kp_K8.trans K24 (allS (Or.inr z26) all0)
  have c_K24 := CHr.keep K24 (allS sf25 all0) C_K8.1
  have C_K24 := C_K8.trans c_K24
  obtain ⟨T27, Lc27, _, X27, hSq27, hg27, Cq27, hQ27, st27⟩ := flH X24 (Jvm.RoadKit.callSS X24 hx (y := y0) hown8 (mvT hZ8 (ow hw 3 rfl)) (mvT hZ8 (ow hw 4 rfl)) (mvT hZ8 (ow hw 5 rfl)) (mvT hZ8 (ow hw 6 rfl)) (by decide) (backOfSH (s := s) (vm0 := T8.vm) (W := 1) (own_text l Z a0 hw [] i1 zCOMPACT_STRINGS T24.heap n0 O_K24 B0 B1) hZ8 (ow hw 6 rfl) (ow hw 5 rfl) (by decide) (by decide) (own_EW hw) C_K24.1) (g := (mkF m 52 #[iv i0, iv i1, iv i2, iv i3, iv i4, iv i1, iv i3, rv b3, un, un, un] [(.int i1), (.ref b3)])) rfl (by rw [hml]; rfl) (argsL := [(.int i1)]) (rest := [(.ref b3)]) (lenOf pd__I_Ljava_lang_String_ rfl) rfl wf (hb hby at_52) (fun _ _ => ⟨rfl, rfl, (by decide : 13 + 6 ≤ _), (by decide : 29 + 12 ≤ _)⟩))
  obtain ⟨Y27, hS27, hZ27, hown27⟩ := rebS (s := s) (vm0 := T8.vm) hS8 (Nat.le_trans (Nat.le_refl _) K24.1) X27 hSq27 hg27 hZ8 hown8
  obtain ⟨b27_0, b27_1, k27_0, rfl, N27q, K27, lo27_1, f27_2, f27_3, f27_4, f27_5⟩ := hQ27
  have N27 := Fr.app N24 N27q
  have O_K27 : Old Z n0 T27.heap := O_K24.keep K27 all0
  have Kp_K27 : Keep h0 T27.heap [] := Kp_K24.trans K27 all0
  have c_K27 := Cq27
  have C_K27 := C_K24.trans c_K27
  have f28 := (f24_2.keep K27)
  have ne29 := Exa.neArv f28 f27_5 (ow hw 1 rfl)
  obtain ⟨T30, Lc30, _, X30, hSq30, hg30, Cq30, hQ30, st30⟩ := flH Y27 (Jvm.RoadKit.callSS Y27 hx (y := y0) hown27 (mvT hZ27 (ow hw 3 rfl)) (mvT hZ27 (ow hw 4 rfl)) (mvT hZ27 (ow hw 5 rfl)) (mvT hZ27 (ow hw 6 rfl)) (by decide) (backOfSH (s := s) (vm0 := T27.vm) (W := 2) (own_text l Z a0 hw [] i3 zCOMPACT_STRINGS T27.heap n0 O_K27 B0 B1) hZ27 (ow hw 6 rfl) (ow hw 5 rfl) (by decide) (by decide) (own_EW hw) C_K27.1) (g := (mkF m 57 #[iv i0, iv i1, iv i2, iv i3, iv i4, iv i1, iv i3, rv b3, un, un, un] [(.int i3), (.ref b27_0), (.ref b3)])) rfl (by rw [hml]; rfl) (argsL := [(.int i3)]) (rest := [(.ref b27_0), (.ref b3)]) (lenOf pd__I_Ljava_lang_String_ rfl) rfl wf (hb hby at_57) (fun _ _ => ⟨rfl, rfl, (by decide : 19 + 6 ≤ _), (by decide : 41 + 12 ≤ _)⟩))
  obtain ⟨Y30, hS30, hZ30, hown30⟩ := rebS (s := s) (vm0 := T27.vm) hS27 (Nat.le_refl _) X30 hSq30 hg30 hZ27 hown27
  obtain ⟨b30_0, b30_1, k30_0, rfl, N30q, K30, lo30_1, f30_2, f30_3, f30_4, f30_5⟩ := hQ30
  have N30 := Fr.app N27 N30q
  have O_K30 : Old Z n0 T30.heap := O_K27.keep K30 all0
  have Kp_K30 : Keep h0 T30.heap [] := Kp_K27.trans K30 all0
  have c_K30 := Cq30
  have C_K30 := C_K27.trans c_K30
  have f31 := (f28.keep K30)
  have ne32 := Exa.neArv f31 f30_5 (ow hw 1 rfl)
  have f33 := (f27_2.keep K30)
  have ne34 := Exa.neArv f33 f30_5 (ow hw 11 rfl)
  have f35 := ((f24_1.keep K27 nin0).keep K30 nin0)
  have f36 := (((f9.keep K24).keep K27).keep K30)
  have ne37 : b3 ≠ b5_0 := Nat.ne_of_lt (Nat.lt_of_lt_of_le A3.lt lo5_1)
  have f38 := ((((f5_3.keep K8 nin0).keep K24 (ninS (Ne.symm ne37) nin0)).keep K27 nin0).keep K30 nin0)
  have f39 := ((((f5_4.keep K8 nin0).keep K24 (ninS (Ne.symm ne37) nin0)).keep K27 nin0).keep K30 nin0)
  have f40 := ((((f5_5.keep K8 nin0).keep K24 (ninS (Ne.symm ne7) nin0)).keep K27 nin0).keep K30 nin0)
  have f41 := (f27_3.keep K30 nin0)
  have f42 := (f27_4.keep K30 nin0)
  have f43 := (f27_5.keep K30 nin0)
  have f45 := ((f24_3.keep K27 nin0).keep K30 nin0)
  have f46 := (((f8_2.keep K24).keep K27).keep K30)
  have ne47 : b3 ≠ b8_0 := Nat.ne_of_lt (Nat.lt_of_lt_of_le (A3.keep K5).lt lo8_1)
  have f48 := (((f8_3.keep K24 (ninS (Ne.symm ne47) nin0)).keep K27 nin0).keep K30 nin0)
  have f49 := (((f8_4.keep K24 (ninS (Ne.symm ne47) nin0)).keep K27 nin0).keep K30 nin0)
  have f50 := (((f8_5.keep K24 (ninS (Ne.symm ne12) nin0)).keep K27 nin0).keep K30 nin0)
  obtain ⟨cq52, kq52, q52a, q52b, q52c⟩ := isOf hZ30 rfl f31
  obtain ⟨T52, Lc52, _, X52, hSq52, hg52, Cq52, hQ52, st52⟩ := flH Y30 (Y30.virtualBackS hx (y := y15) (z := y15) hown30 (mvT hZ30 (ow hw 82 rfl)) (mvT hZ30 (ow hw 83 rfl)) (notFace_of_selects (args := #[]) (mvT hZ30 (ow hw 85 rfl))) (mvT hZ30 (ow hw 85 rfl)) (mvT hZ30 (ow hw 84 rfl)) (by decide) (backOfSH (s := s) (vm0 := T30.vm) (W := 0) (r15_1 l Z a0 hw [] b3 b27_0 b30_0 b5_0 b5_1 k5_0 (own_tl i0) b27_1 k27_0 (own_tl i1) zCOMPACT_STRINGS b8_0 b8_1 k8_0 (own_tl i2) b30_1 k30_0 (own_tl i3) T30.heap n0 O_K30 f35 f36 f38 f39 f40 (own_gt _) f33 f41 f42 f43 (own_gt _) B0 B1 hc44 f45 f46 f48 f49 f50 (own_gt _) f30_2 f30_3 f30_4 f30_5 (own_gt _) hc51) hZ30 (ow hw 86 rfl) (ow hw 2 rfl) (by decide) (by decide) (own_EW hw) C_K30.1) q52a q52c (g := (mkF m 60 #[iv i0, iv i1, iv i2, iv i3, iv i4, iv i1, iv i3, rv b3, un, un, un] [(.ref b30_0), (.ref b27_0), (.ref b3)])) rfl (by rw [hml]; rfl) (Steps.refl _) (argsL := [(.ref b27_0), (.ref b30_0)]) (rest := []) (lenOf pd__Ljava_lang_String_Ljava_lang_String__Z rfl) rfl wf (hb hby at_60) (fun _ _ => ⟨rfl, rfl, (by decide : 25 + 0 ≤ _), (by decide : 53 + 0 ≤ _)⟩))
  obtain ⟨Y52, hS52, hZ52, hown52⟩ := rebS (s := s) (vm0 := T30.vm) hS30 (Nat.le_refl _) X52 hSq52 hg52 hZ30 hown30
  obtain ⟨rfl, N52q, K52⟩ := hQ52
  have N52 := Fr.app N30 N52q
  have O_K52 : Old Z n0 T52.heap := O_K30.keep K52 all0
  have Kp_K52 : Keep h0 T52.heap [] := Kp_K30.trans K52 all0
  have c_K52 := Cq52
  have C_K52 := C_K30.trans c_K52
  obtain ⟨T53, Lc53, _, X53, hQ53, st53⟩ := flC Y52 (Jvm.LawKit.callS Y52 hx (y := y17) hown52 (mvT hZ52 (ow hw 95 rfl)) (mvT hZ52 (ow hw 96 rfl)) (mvT hZ52 (ow hw 5 rfl)) (mvT hZ52 (ow hw 97 rfl)) (by decide) (backOf (W := 0) (own_same l Z a0 hw [] i0 i1 T52.heap n0 O_K52) hZ52 (ow hw 97 rfl) (ow hw 5 rfl) (by decide) (by decide)) (g := (mkF m 68 #[iv i0, iv i1, iv i2, iv i3, iv i4, iv i1, iv i3, rv b3, iv (1 : Int32), un, un] [(.int i1), (.int i0)])) rfl (by rw [hml]; rfl) (argsL := [(.int i0), (.int i1)]) (rest := []) (lenOf pd__II_Z rfl) rfl wf (hb hby at_68) (fun _ _ => ⟨rfl, rfl, (by decide : 25 + 0 ≤ _), (by decide : 53 + 0 ≤ _)⟩))
  obtain ⟨rfl, N53q, e53⟩ := hQ53
  have N53 := Fr.app N52 N53q
  obtain ⟨T54, Lc54, _, X54, hQ54, st54⟩ := flC X53 (Jvm.LawKit.callS X53 hx (y := y17) hown52 (mvT hZ52 (ow hw 95 rfl)) (mvT hZ52 (ow hw 96 rfl)) (mvT hZ52 (ow hw 5 rfl)) (mvT hZ52 (ow hw 97 rfl)) (by decide) (backOf (W := 0) (own_same l Z a0 hw [] i2 i3 T52.heap n0 O_K52) hZ52 (ow hw 97 rfl) (ow hw 5 rfl) (by decide) (by decide)) (g := (mkF m 96 #[iv i0, iv i1, iv i2, iv i3, iv i4, iv i1, iv i3, rv b3, iv (1 : Int32), iv (1 : Int32), un] [(.int i3), (.int i2)])) rfl (by rw [hml]; rfl) (argsL := [(.int i2), (.int i3)]) (rest := []) (lenOf pd__II_Z rfl) rfl wf (hb hby at_96) (fun _ _ => ⟨rfl, e53, (by decide : 25 + 0 ≤ _), (by decide : 53 + 0 ≤ _)⟩))
  obtain ⟨rfl, N54q, e54⟩ := hQ54
  have N54 := Fr.app N53 N54q
  refine finH (Q := lawQ n0) (rm := room_1) (vm := T52.vm) Bd X54 hZ52 (own_EW hw) C_K52 hh e54 hS52 (Nat.le_refl _) (some (.int (1 : Int32))) nofun ⟨rfl, N54⟩ (by decide) (by decide) fun fs hr => ?_
  show St p e below s₁ m 0 #[iv i0, iv i1, iv i2, iv i3, iv i4, un, un, un, un, un, un] [] _
  refine XS.iload X0.here hx rfl (hb hby at_0) rfl ?_
  refine XS.iconst X0.here hx rfl (hb hby at_2) ?_
  refine XS.iand X0.here hx rfl (hb hby at_3) rfl ?_
  refine XS.ifYes X0.here hx rfl (pc0 := 4) (pc' := 11) rfl (hb hby at_4) rfl ((if0 _ _).trans (teq hc1).1) (by decide) (by decide) ?_
  refine XS.iloadN X0.here hx rfl (hb hby at_11) rfl ?_
  refine XS.istore X0.here hx rfl (hb hby at_12) rfl (l' := #[iv i0, iv i1, iv i2, iv i3, iv i4, iv i1, un, un, un, un, un]) rfl ?_
  refine XS.iload X0.here hx rfl (hb hby at_14) rfl ?_
  refine XS.iconst X0.here hx rfl (hb hby at_16) ?_
  refine XS.iand X0.here hx rfl (hb hby at_17) rfl ?_
  refine XS.ifYes X0.here hx rfl (pc0 := 18) (pc' := 25) rfl (hb hby at_18) rfl ((if0 _ _).trans (teq hc2).1) (by decide) (by decide) ?_
  refine XS.iloadN X0.here hx rfl (hb hby at_25) rfl ?_
  refine XS.istore X0.here hx rfl (hb hby at_26) rfl (l' := #[iv i0, iv i1, iv i2, iv i3, iv i4, iv i1, iv i3, un, un, un, un]) rfl ?_
  refine st3 _ ?_
  refine XS.dup X3.here hx rfl (hb hby at_31) rfl rfl ?_
  refine XS.iloadN X3.here hx rfl (hb hby at_32) rfl ?_
  refine st5.trans ?_
  refine XS.iloadN Y5.here hx rfl (hb hby at_36) rfl ?_
  refine st8.trans ?_
  refine XS.aconstNull Y8.here hx rfl (hb hby at_40) ?_
  refine XS.aconstNull Y8.here hx rfl (hb hby at_41) ?_
  refine XS.aconstNull Y8.here hx rfl (hb hby at_42) ?_
  refine st24.trans ?_
  refine XS.astore X24.here hx rfl (hb hby at_46) rfl rfl (l' := #[iv i0, iv i1, iv i2, iv i3, iv i4, iv i1, iv i3, rv b3, un, un, un]) rfl ?_
  refine XS.aload X24.here hx rfl (hb hby at_48) rfl rfl ?_
  refine XS.iload X24.here hx rfl (hb hby at_50) rfl ?_
  show St p e below T24 m 52 #[iv i0, iv i1, iv i2, iv i3, iv i4, iv i1, iv i3, rv b3, un, un, un] [(.int i1), (.ref b3)] _
  refine st27.trans ?_
  refine XS.iload Y27.here hx rfl (hb hby at_55) rfl ?_
  refine st30.trans ?_
  refine st52.trans ?_
  refine XS.istore Y52.here hx rfl (hb hby at_63) rfl (l' := #[iv i0, iv i1, iv i2, iv i3, iv i4, iv i1, iv i3, rv b3, iv (1 : Int32), un, un]) rfl ?_
  refine XS.iloadN Y52.here hx rfl (hb hby at_65) rfl ?_
  refine XS.iload Y52.here hx rfl (hb hby at_66) rfl ?_
  refine st53 _ ?_
  refine XS.ifYes X53.here hx rfl (pc0 := 71) (pc' := 81) rfl (hb hby at_71) rfl ((if0 _ _).trans (feq hc44).2) (by decide) (by decide) ?_
  refine XS.iconst X53.here hx rfl (hb hby at_81) ?_
  refine XS.goto X53.here hx rfl (pc0 := 82) (pc' := 86) rfl (hb hby at_82) (by decide) (by decide) ?_
  refine XS.istore X53.here hx rfl (hb hby at_86) rfl (l' := #[iv i0, iv i1, iv i2, iv i3, iv i4, iv i1, iv i3, rv b3, iv (1 : Int32), iv (1 : Int32), un]) rfl ?_
  refine XS.iload X53.here hx rfl (hb hby at_88) rfl ?_
  refine XS.ifNo X53.here hx rfl (hb hby at_90) rfl ((if0 _ _).trans (feq (by decide : ¬ ((1 : Int32) = (0 : Int32)))).1) ?_
  refine XS.iloadN X53.here hx rfl (hb hby at_93) rfl ?_
  refine XS.iload X53.here hx rfl (hb hby at_94) rfl ?_
  refine st54 _ ?_
  refine XS.ifNo X54.here hx rfl (hb hby at_99) rfl ((if0 _ _).trans (feq hc51).1) ?_
  refine XS.iconst X54.here hx rfl (hb hby at_102) ?_
  refine XS.goto X54.here hx rfl (pc0 := 103) (pc' := 107) rfl (hb hby at_103) (by decide) (by decide) ?_
  refine XS.istore X54.here hx rfl (hb hby at_107) rfl (l' := #[iv i0, iv i1, iv i2, iv i3, iv i4, iv i1, iv i3, rv b3, iv (1 : Int32), iv (1 : Int32), iv (1 : Int32)]) rfl ?_
  refine XS.iload X54.here hx rfl (hb hby at_109) rfl ?_
  refine XS.iload X54.here hx rfl (hb hby at_111) rfl ?_
  refine XS.icmpNo X54.here hx rfl (hb hby at_113) rfl (teq (rfl : (1 : Int32) = (1 : Int32))).2 ?_
  refine XS.iconst X54.here hx rfl (hb hby at_116) ?_
  show St p e below T54 m 117 #[iv i0, iv i1, iv i2, iv i3, iv i4, iv i1, iv i3, rv b3, iv (1 : Int32), iv (1 : Int32), iv (1 : Int32)] [(.int (1 : Int32))] _
  refine XS.goto X54.here hx rfl (pc0 := 117) (pc' := 121) rfl (hb hby at_117) (by decide) (by decide) ?_
  exact retN X54 hx (t := .boolean) Bd.returns (by simp) (hb hby at_121) hr
set_option maxRecDepth 65536 in
set_option maxHeartbeats 40000000 in
theorem law_6 (l : Launch) (Z : State) (a0 : Array Value) (hw : HW a0 Z) (ws : List Jvm.Cond) (zCOMPACT_STRINGS : Int32) (B : Base Z zCOMPACT_STRINGS) (i0 : Int32) (i1 : Int32) (i2 : Int32) (i3 : Int32) (i4 : Int32) (h0 : Heap) (n0 : Nat) (O0 : Old Z n0 h0) (hc1 : (i4 &&& (1 : Int32)) = (0 : Int32)) (hc2 : (i4 &&& (2 : Int32)) = (0 : Int32)) (hc44 : ¬ ((own_eqc (own_tl i0) (own_tl i1)) = (0 : Int32))) (hc51 : (own_eqc (own_tl i2) (own_tl i3)) = (0 : Int32)) :
    MFH l x code maxLocals ret ws room_1 Z #[(.int i0), (.int i1), (.int i2), (.int i3), (.int i4)] h0 (lawQ n0) := by
  refine own_inH (plainFor_of_name pn_com_example_agave_agave_store_StoredRequestIsSameRequestPinLaw) #[iv i0, iv i1, iv i2, iv i3, iv i4, un, un, un, un, un, un] (fun _ => by first | (simp [entryFrame, mkF, argsToLocals, Value.category, maxLocals]; done) | rfl) ?_
  intro p e s m below meth c s₁ Bd hx hby hml hown hnm hZ hh C0 e0 X0
  have N0 := Fr.nil n0
  obtain ⟨B0, B1⟩ := B
  obtain ⟨T3, h3, X3, e3, E3, A3, D3, -, st3⟩ := newO X0 hx hZ hown (ow hw 0 rfl) (ow hw 1 rfl) (ow hw 2 rfl) e0 (g := (mkF m 28 #[iv i0, iv i1, iv i2, iv i3, iv i4, iv i1, iv i3, un, un, un, un] [])) rfl (hb hby at_28) (by decide) (by decide)
  obtain ⟨b3, g3⟩ : ∃ z, z = h0.size := ⟨_, rfl⟩
  rw [← g3] at A3 D3 st3
  have O_E3 : Old Z n0 h3 := O0.ext E3
  have Kp_E3 : Keep h0 h3 [] := (Keep.refl h0 []).ext E3
  have c_E3 := CHr.ext E3 C0.1
  have C_E3 := C0.trans c_E3
  obtain ⟨T5, Lc5, _, X5, hSq5, hg5, Cq5, hQ5, st5⟩ := flH X3 (Jvm.RoadKit.callSS X3 hx (y := y0) hown (mvT hZ (ow hw 3 rfl)) (mvT hZ (ow hw 4 rfl)) (mvT hZ (ow hw 5 rfl)) (mvT hZ (ow hw 6 rfl)) (by decide) (backOfSH (s := s) (vm0 := s.vm) (W := 2) (own_text l Z a0 hw [] i0 zCOMPACT_STRINGS h3 n0 O_E3 B0 B1) hZ (ow hw 6 rfl) (ow hw 5 rfl) (by decide) (by decide) (own_EW hw) C_E3.1) (g := (mkF m 33 #[iv i0, iv i1, iv i2, iv i3, iv i4, iv i1, iv i3, un, un, un, un] [(.int i0), (.ref b3), (.ref b3)])) rfl (by rw [hml]; rfl) (argsL := [(.int i0)]) (rest := [(.ref b3), (.ref b3)]) (lenOf pd__I_Ljava_lang_String_ rfl) rfl wf (hb hby at_33) (fun _ _ => ⟨rfl, e3, (by decide : 1 + 6 ≤ _), (by decide : 5 + 12 ≤ _)⟩))
  obtain ⟨Y5, hS5, hZ5, hown5⟩ := rebS (s := s) (vm0 := s.vm) (State.WarmedH.since (State.WarmedH.refl s) 0) (by rw [e3]; exact (Nat.zero_le _)) X5 hSq5 hg5 hZ hown
  obtain ⟨b5_0, b5_1, k5_0, rfl, N5q, K5, lo5_1, f5_2, f5_3, f5_4, f5_5⟩ := hQ5
  have N5 := Fr.app N0 N5q
  have O_K5 : Old Z n0 T5.heap := O_E3.keep K5 all0
  have Kp_K5 : Keep h0 T5.heap [] := Kp_E3.trans K5 all0
  have c_K5 := Cq5
  have C_K5 := C_E3.trans c_K5
  have f6 := (A3.keep K5)
  have ne7 := Exa.neArv f6 f5_5 (ow hw 1 rfl)
  obtain ⟨T8, Lc8, _, X8, hSq8, hg8, Cq8, hQ8, st8⟩ := flH Y5 (Jvm.RoadKit.callSS Y5 hx (y := y0) hown5 (mvT hZ5 (ow hw 3 rfl)) (mvT hZ5 (ow hw 4 rfl)) (mvT hZ5 (ow hw 5 rfl)) (mvT hZ5 (ow hw 6 rfl)) (by decide) (backOfSH (s := s) (vm0 := T5.vm) (W := 3) (own_text l Z a0 hw [] i2 zCOMPACT_STRINGS T5.heap n0 O_K5 B0 B1) hZ5 (ow hw 6 rfl) (ow hw 5 rfl) (by decide) (by decide) (own_EW hw) C_K5.1) (g := (mkF m 37 #[iv i0, iv i1, iv i2, iv i3, iv i4, iv i1, iv i3, un, un, un, un] [(.int i2), (.ref b5_0), (.ref b3), (.ref b3)])) rfl (by rw [hml]; rfl) (argsL := [(.int i2)]) (rest := [(.ref b5_0), (.ref b3), (.ref b3)]) (lenOf pd__I_Ljava_lang_String_ rfl) rfl wf (hb hby at_37) (fun _ _ => ⟨rfl, rfl, (by decide : 7 + 6 ≤ _), (by decide : 17 + 12 ≤ _)⟩))
  obtain ⟨Y8, hS8, hZ8, hown8⟩ := rebS (s := s) (vm0 := T5.vm) hS5 (Nat.le_refl _) X8 hSq8 hg8 hZ5 hown5
  obtain ⟨b8_0, b8_1, k8_0, rfl, N8q, K8, lo8_1, f8_2, f8_3, f8_4, f8_5⟩ := hQ8
  have N8 := Fr.app N5 N8q
  have O_K8 : Old Z n0 T8.heap := O_K5.keep K8 all0
  have Kp_K8 : Keep h0 T8.heap [] := Kp_K5.trans K8 all0
  have c_K8 := Cq8
  have C_K8 := C_K5.trans c_K8
  have f9 := (f5_2.keep K8)
  have ne10 := Exa.neArv f9 f8_5 (ow hw 11 rfl)
  have f11 := (f6.keep K8)
  have ne12 := Exa.neArv f11 f8_5 (ow hw 1 rfl)
  have f13 : xF5 Z h3 b3 .null := D3 (Or.inr (ow hw 59 rfl)) (ty := (.object "java/lang/String")) (by decide)
  have f14 := ((f13.keep K5 nin0).keep K8 nin0)
  have g15 : n0 ≤ b3 := Nat.le_trans (Nat.le_trans (Nat.le_of_eq O0.1.symm) O0.2.1) (Nat.le_of_eq g3.symm)
  have f16 : xF7 Z h3 b3 .null := D3 (Or.inr (ow hw 61 rfl)) (ty := (.object "java/lang/String")) (by decide)
  have f17 := ((f16.keep K5 nin0).keep K8 nin0)
  have f18 : xF8 Z h3 b3 .null := D3 (Or.inr (ow hw 63 rfl)) (ty := (.object "java/util/Optional")) (by decide)
  have f19 := ((f18.keep K5 nin0).keep K8 nin0)
  have f20 : xF9 Z h3 b3 .null := D3 (Or.inr (ow hw 65 rfl)) (ty := (.object "java/util/Optional")) (by decide)
  have f21 := ((f20.keep K5 nin0).keep K8 nin0)
  have f22 : xF10 Z h3 b3 .null := D3 (Or.inr (ow hw 67 rfl)) (ty := (.object "java/util/Optional")) (by decide)
  have f23 := ((f22.keep K5 nin0).keep K8 nin0)
  obtain ⟨T24, Lc24, _, X24, hQ24, st24⟩ := fl Y8 (Y8.specialBack hx (y := y13) rfl hown8 (mvT hZ8 (ow hw 49 rfl)) (mvT hZ8 (ow hw 50 rfl)) (mvT hZ8 (ow hw 51 rfl)) (by decide) (backOf (W := 1) (r13_1 l Z a0 hw [] b3 b5_0 b8_0 T8.heap n0 O_K8 f14 f11 g15 f17 f19 f21 f23) hZ8 (ow hw 51 rfl) (ow hw 2 rfl) (by decide) (by decide)) (g := (mkF m 43 #[iv i0, iv i1, iv i2, iv i3, iv i4, iv i1, iv i3, un, un, un, un] [.null, .null, .null, (.ref b8_0), (.ref b5_0), (.ref b3), (.ref b3)])) rfl (by rw [hml]; rfl) (Steps.refl _) (a := b3) (argsL := [(.ref b5_0), (.ref b8_0), .null, .null, .null]) (rest := [(.ref b3)]) (lenOf pd__Ljava_lang_String_Ljava_lang_String_Ljava_util_Optional_Ljava_util_Optional_Ljava_util_Optional__V rfl) rfl wf (hb hby at_43) (fun _ _ => ⟨rfl, rfl, (by decide : 13 + 0 ≤ _), (by decide : 29 + 0 ≤ _)⟩))
  obtain ⟨rfl, N24q, K24, f24_1, f24_2, f24_3, f24_4, f24_5, f24_6⟩ := hQ24
  have N24 := Fr.app N8 N24q
  have sf25 := (c_K8.safe (A3.keep K5).lt (c_K5.safe A3.lt (Safe.ext E3 C0.1 (Safe.new (Nat.le_of_eq g3.symm)))))
  have z26 : h0.size ≤ b3 := Nat.le_trans (Keep.refl h0 []).1 (Nat.le_of_eq g3.symm)
  have O_K24 : Old Z n0 T24.heap := O_K8.keep K24 (allS g15 all0)
  have Kp_K24 : Keep h0 T24.heap [] := Kp_K8.trans K24 (allS (Or.inr z26) all0)
  have c_K24 := CHr.keep K24 (allS sf25 all0) C_K8.1
  have C_K24 := C_K8.trans c_K24
  obtain ⟨T27, Lc27, _, X27, hSq27, hg27, Cq27, hQ27, st27⟩ := flH X24 (Jvm.RoadKit.callSS X24 hx (y := y0) hown8 (mvT hZ8 (ow hw 3 rfl)) (mvT hZ8 (ow hw 4 rfl)) (mvT hZ8 (ow hw 5 rfl)) (mvT hZ8 (ow hw 6 rfl)) (by decide) (backOfSH (s := s) (vm0 := T8.vm) (W := 1) (own_text l Z a0 hw [] i1 zCOMPACT_STRINGS T24.heap n0 O_K24 B0 B1) hZ8 (ow hw 6 rfl) (ow hw 5 rfl) (by decide) (by decide) (own_EW hw) C_K24.1) (g := (mkF m 52 #[iv i0, iv i1, iv i2, iv i3, iv i4, iv i1, iv i3, rv b3, un, un, un] [(.int i1), (.ref b3)])) rfl (by rw [hml]; rfl) (argsL := [(.int i1)]) (rest := [(.ref b3)]) (lenOf pd__I_Ljava_lang_String_ rfl) rfl wf (hb hby at_52) (fun _ _ => ⟨rfl, rfl, (by decide : 13 + 6 ≤ _), (by decide : 29 + 12 ≤ _)⟩))
  obtain ⟨Y27, hS27, hZ27, hown27⟩ := rebS (s := s) (vm0 := T8.vm) hS8 (Nat.le_trans (Nat.le_refl _) K24.1) X27 hSq27 hg27 hZ8 hown8
  obtain ⟨b27_0, b27_1, k27_0, rfl, N27q, K27, lo27_1, f27_2, f27_3, f27_4, f27_5⟩ := hQ27
  have N27 := Fr.app N24 N27q
  have O_K27 : Old Z n0 T27.heap := O_K24.keep K27 all0
  have Kp_K27 : Keep h0 T27.heap [] := Kp_K24.trans K27 all0
  have c_K27 := Cq27
  have C_K27 := C_K24.trans c_K27
  have f28 := (f24_2.keep K27)
  have ne29 := Exa.neArv f28 f27_5 (ow hw 1 rfl)
  obtain ⟨T30, Lc30, _, X30, hSq30, hg30, Cq30, hQ30, st30⟩ := flH Y27 (Jvm.RoadKit.callSS Y27 hx (y := y0) hown27 (mvT hZ27 (ow hw 3 rfl)) (mvT hZ27 (ow hw 4 rfl)) (mvT hZ27 (ow hw 5 rfl)) (mvT hZ27 (ow hw 6 rfl)) (by decide) (backOfSH (s := s) (vm0 := T27.vm) (W := 2) (own_text l Z a0 hw [] i3 zCOMPACT_STRINGS T27.heap n0 O_K27 B0 B1) hZ27 (ow hw 6 rfl) (ow hw 5 rfl) (by decide) (by decide) (own_EW hw) C_K27.1) (g := (mkF m 57 #[iv i0, iv i1, iv i2, iv i3, iv i4, iv i1, iv i3, rv b3, un, un, un] [(.int i3), (.ref b27_0), (.ref b3)])) rfl (by rw [hml]; rfl) (argsL := [(.int i3)]) (rest := [(.ref b27_0), (.ref b3)]) (lenOf pd__I_Ljava_lang_String_ rfl) rfl wf (hb hby at_57) (fun _ _ => ⟨rfl, rfl, (by decide : 19 + 6 ≤ _), (by decide : 41 + 12 ≤ _)⟩))
  obtain ⟨Y30, hS30, hZ30, hown30⟩ := rebS (s := s) (vm0 := T27.vm) hS27 (Nat.le_refl _) X30 hSq30 hg30 hZ27 hown27
  obtain ⟨b30_0, b30_1, k30_0, rfl, N30q, K30, lo30_1, f30_2, f30_3, f30_4, f30_5⟩ := hQ30
  have N30 := Fr.app N27 N30q
  have O_K30 : Old Z n0 T30.heap := O_K27.keep K30 all0
  have Kp_K30 : Keep h0 T30.heap [] := Kp_K27.trans K30 all0
  have c_K30 := Cq30
  have C_K30 := C_K27.trans c_K30
  have f31 := (f28.keep K30)
  have ne32 := Exa.neArv f31 f30_5 (ow hw 1 rfl)
  have f33 := (f27_2.keep K30)
  have ne34 := Exa.neArv f33 f30_5 (ow hw 11 rfl)
  have f35 := ((f24_1.keep K27 nin0).keep K30 nin0)
  have f36 := (((f9.keep K24).keep K27).keep K30)
  have ne37 : b3 ≠ b5_0 := Nat.ne_of_lt (Nat.lt_of_lt_of_le A3.lt lo5_1)
  have f38 := ((((f5_3.keep K8 nin0).keep K24 (ninS (Ne.symm ne37) nin0)).keep K27 nin0).keep K30 nin0)
  have f39 := ((((f5_4.keep K8 nin0).keep K24 (ninS (Ne.symm ne37) nin0)).keep K27 nin0).keep K30 nin0)
  have f40 := ((((f5_5.keep K8 nin0).keep K24 (ninS (Ne.symm ne7) nin0)).keep K27 nin0).keep K30 nin0)
  have f41 := (f27_3.keep K30 nin0)
  have f42 := (f27_4.keep K30 nin0)
  have f43 := (f27_5.keep K30 nin0)
  have f45 := ((f24_3.keep K27 nin0).keep K30 nin0)
  have f46 := (((f8_2.keep K24).keep K27).keep K30)
  have ne47 : b3 ≠ b8_0 := Nat.ne_of_lt (Nat.lt_of_lt_of_le (A3.keep K5).lt lo8_1)
  have f48 := (((f8_3.keep K24 (ninS (Ne.symm ne47) nin0)).keep K27 nin0).keep K30 nin0)
  have f49 := (((f8_4.keep K24 (ninS (Ne.symm ne47) nin0)).keep K27 nin0).keep K30 nin0)
  have f50 := (((f8_5.keep K24 (ninS (Ne.symm ne12) nin0)).keep K27 nin0).keep K30 nin0)
  obtain ⟨cq52, kq52, q52a, q52b, q52c⟩ := isOf hZ30 rfl f31
  obtain ⟨T52, Lc52, _, X52, hSq52, hg52, Cq52, hQ52, st52⟩ := flH Y30 (Y30.virtualBackS hx (y := y15) (z := y15) hown30 (mvT hZ30 (ow hw 82 rfl)) (mvT hZ30 (ow hw 83 rfl)) (notFace_of_selects (args := #[]) (mvT hZ30 (ow hw 85 rfl))) (mvT hZ30 (ow hw 85 rfl)) (mvT hZ30 (ow hw 84 rfl)) (by decide) (backOfSH (s := s) (vm0 := T30.vm) (W := 0) (r15_2 l Z a0 hw [] b3 b27_0 b30_0 b5_0 b5_1 k5_0 (own_tl i0) b27_1 k27_0 (own_tl i1) zCOMPACT_STRINGS b8_0 b8_1 k8_0 (own_tl i2) b30_1 k30_0 (own_tl i3) T30.heap n0 O_K30 f35 f36 f38 f39 f40 (own_gt _) f33 f41 f42 f43 (own_gt _) B0 B1 hc44 f45 f46 f48 f49 f50 (own_gt _) f30_2 f30_3 f30_4 f30_5 (own_gt _) hc51) hZ30 (ow hw 86 rfl) (ow hw 2 rfl) (by decide) (by decide) (own_EW hw) C_K30.1) q52a q52c (g := (mkF m 60 #[iv i0, iv i1, iv i2, iv i3, iv i4, iv i1, iv i3, rv b3, un, un, un] [(.ref b30_0), (.ref b27_0), (.ref b3)])) rfl (by rw [hml]; rfl) (Steps.refl _) (argsL := [(.ref b27_0), (.ref b30_0)]) (rest := []) (lenOf pd__Ljava_lang_String_Ljava_lang_String__Z rfl) rfl wf (hb hby at_60) (fun _ _ => ⟨rfl, rfl, (by decide : 25 + 0 ≤ _), (by decide : 53 + 0 ≤ _)⟩))
  obtain ⟨Y52, hS52, hZ52, hown52⟩ := rebS (s := s) (vm0 := T30.vm) hS30 (Nat.le_refl _) X52 hSq52 hg52 hZ30 hown30
  obtain ⟨rfl, N52q, K52⟩ := hQ52
  have N52 := Fr.app N30 N52q
  have O_K52 : Old Z n0 T52.heap := O_K30.keep K52 all0
  have Kp_K52 : Keep h0 T52.heap [] := Kp_K30.trans K52 all0
  have c_K52 := Cq52
  have C_K52 := C_K30.trans c_K52
  obtain ⟨T53, Lc53, _, X53, hQ53, st53⟩ := flC Y52 (Jvm.LawKit.callS Y52 hx (y := y17) hown52 (mvT hZ52 (ow hw 95 rfl)) (mvT hZ52 (ow hw 96 rfl)) (mvT hZ52 (ow hw 5 rfl)) (mvT hZ52 (ow hw 97 rfl)) (by decide) (backOf (W := 0) (own_same l Z a0 hw [] i0 i1 T52.heap n0 O_K52) hZ52 (ow hw 97 rfl) (ow hw 5 rfl) (by decide) (by decide)) (g := (mkF m 68 #[iv i0, iv i1, iv i2, iv i3, iv i4, iv i1, iv i3, rv b3, iv (0 : Int32), un, un] [(.int i1), (.int i0)])) rfl (by rw [hml]; rfl) (argsL := [(.int i0), (.int i1)]) (rest := []) (lenOf pd__II_Z rfl) rfl wf (hb hby at_68) (fun _ _ => ⟨rfl, rfl, (by decide : 25 + 0 ≤ _), (by decide : 53 + 0 ≤ _)⟩))
  obtain ⟨rfl, N53q, e53⟩ := hQ53
  have N53 := Fr.app N52 N53q
  obtain ⟨T54, Lc54, _, X54, hQ54, st54⟩ := flC X53 (Jvm.LawKit.callS X53 hx (y := y17) hown52 (mvT hZ52 (ow hw 95 rfl)) (mvT hZ52 (ow hw 96 rfl)) (mvT hZ52 (ow hw 5 rfl)) (mvT hZ52 (ow hw 97 rfl)) (by decide) (backOf (W := 0) (own_same l Z a0 hw [] i2 i3 T52.heap n0 O_K52) hZ52 (ow hw 97 rfl) (ow hw 5 rfl) (by decide) (by decide)) (g := (mkF m 96 #[iv i0, iv i1, iv i2, iv i3, iv i4, iv i1, iv i3, rv b3, iv (0 : Int32), iv (1 : Int32), un] [(.int i3), (.int i2)])) rfl (by rw [hml]; rfl) (argsL := [(.int i2), (.int i3)]) (rest := []) (lenOf pd__II_Z rfl) rfl wf (hb hby at_96) (fun _ _ => ⟨rfl, e53, (by decide : 25 + 0 ≤ _), (by decide : 53 + 0 ≤ _)⟩))
  obtain ⟨rfl, N54q, e54⟩ := hQ54
  have N54 := Fr.app N53 N54q
  refine finH (Q := lawQ n0) (rm := room_1) (vm := T52.vm) Bd X54 hZ52 (own_EW hw) C_K52 hh e54 hS52 (Nat.le_refl _) (some (.int (1 : Int32))) nofun ⟨rfl, N54⟩ (by decide) (by decide) fun fs hr => ?_
  show St p e below s₁ m 0 #[iv i0, iv i1, iv i2, iv i3, iv i4, un, un, un, un, un, un] [] _
  refine XS.iload X0.here hx rfl (hb hby at_0) rfl ?_
  refine XS.iconst X0.here hx rfl (hb hby at_2) ?_
  refine XS.iand X0.here hx rfl (hb hby at_3) rfl ?_
  refine XS.ifYes X0.here hx rfl (pc0 := 4) (pc' := 11) rfl (hb hby at_4) rfl ((if0 _ _).trans (teq hc1).1) (by decide) (by decide) ?_
  refine XS.iloadN X0.here hx rfl (hb hby at_11) rfl ?_
  refine XS.istore X0.here hx rfl (hb hby at_12) rfl (l' := #[iv i0, iv i1, iv i2, iv i3, iv i4, iv i1, un, un, un, un, un]) rfl ?_
  refine XS.iload X0.here hx rfl (hb hby at_14) rfl ?_
  refine XS.iconst X0.here hx rfl (hb hby at_16) ?_
  refine XS.iand X0.here hx rfl (hb hby at_17) rfl ?_
  refine XS.ifYes X0.here hx rfl (pc0 := 18) (pc' := 25) rfl (hb hby at_18) rfl ((if0 _ _).trans (teq hc2).1) (by decide) (by decide) ?_
  refine XS.iloadN X0.here hx rfl (hb hby at_25) rfl ?_
  refine XS.istore X0.here hx rfl (hb hby at_26) rfl (l' := #[iv i0, iv i1, iv i2, iv i3, iv i4, iv i1, iv i3, un, un, un, un]) rfl ?_
  refine st3 _ ?_
  refine XS.dup X3.here hx rfl (hb hby at_31) rfl rfl ?_
  refine XS.iloadN X3.here hx rfl (hb hby at_32) rfl ?_
  refine st5.trans ?_
  refine XS.iloadN Y5.here hx rfl (hb hby at_36) rfl ?_
  refine st8.trans ?_
  refine XS.aconstNull Y8.here hx rfl (hb hby at_40) ?_
  refine XS.aconstNull Y8.here hx rfl (hb hby at_41) ?_
  refine XS.aconstNull Y8.here hx rfl (hb hby at_42) ?_
  refine st24.trans ?_
  refine XS.astore X24.here hx rfl (hb hby at_46) rfl rfl (l' := #[iv i0, iv i1, iv i2, iv i3, iv i4, iv i1, iv i3, rv b3, un, un, un]) rfl ?_
  refine XS.aload X24.here hx rfl (hb hby at_48) rfl rfl ?_
  refine XS.iload X24.here hx rfl (hb hby at_50) rfl ?_
  show St p e below T24 m 52 #[iv i0, iv i1, iv i2, iv i3, iv i4, iv i1, iv i3, rv b3, un, un, un] [(.int i1), (.ref b3)] _
  refine st27.trans ?_
  refine XS.iload Y27.here hx rfl (hb hby at_55) rfl ?_
  refine st30.trans ?_
  refine st52.trans ?_
  refine XS.istore Y52.here hx rfl (hb hby at_63) rfl (l' := #[iv i0, iv i1, iv i2, iv i3, iv i4, iv i1, iv i3, rv b3, iv (0 : Int32), un, un]) rfl ?_
  refine XS.iloadN Y52.here hx rfl (hb hby at_65) rfl ?_
  refine XS.iload Y52.here hx rfl (hb hby at_66) rfl ?_
  refine st53 _ ?_
  refine XS.ifYes X53.here hx rfl (pc0 := 71) (pc' := 81) rfl (hb hby at_71) rfl ((if0 _ _).trans (feq hc44).2) (by decide) (by decide) ?_
  refine XS.iconst X53.here hx rfl (hb hby at_81) ?_
  refine XS.goto X53.here hx rfl (pc0 := 82) (pc' := 86) rfl (hb hby at_82) (by decide) (by decide) ?_
  refine XS.istore X53.here hx rfl (hb hby at_86) rfl (l' := #[iv i0, iv i1, iv i2, iv i3, iv i4, iv i1, iv i3, rv b3, iv (0 : Int32), iv (1 : Int32), un]) rfl ?_
  refine XS.iload X53.here hx rfl (hb hby at_88) rfl ?_
  refine XS.ifNo X53.here hx rfl (hb hby at_90) rfl ((if0 _ _).trans (feq (by decide : ¬ ((1 : Int32) = (0 : Int32)))).1) ?_
  refine XS.iloadN X53.here hx rfl (hb hby at_93) rfl ?_
  refine XS.iload X53.here hx rfl (hb hby at_94) rfl ?_
  refine st54 _ ?_
  refine XS.ifYes X54.here hx rfl (pc0 := 99) (pc' := 106) rfl (hb hby at_99) rfl ((if0 _ _).trans (teq hc51).1) (by decide) (by decide) ?_
  refine XS.iconst X54.here hx rfl (hb hby at_106) ?_
  refine XS.istore X54.here hx rfl (hb hby at_107) rfl (l' := #[iv i0, iv i1, iv i2, iv i3, iv i4, iv i1, iv i3, rv b3, iv (0 : Int32), iv (1 : Int32), iv (0 : Int32)]) rfl ?_
  refine XS.iload X54.here hx rfl (hb hby at_109) rfl ?_
  refine XS.iload X54.here hx rfl (hb hby at_111) rfl ?_
  refine XS.icmpNo X54.here hx rfl (hb hby at_113) rfl (teq (rfl : (0 : Int32) = (0 : Int32))).2 ?_
  refine XS.iconst X54.here hx rfl (hb hby at_116) ?_
  refine XS.goto X54.here hx rfl (pc0 := 117) (pc' := 121) rfl (hb hby at_117) (by decide) (by decide) ?_
  show St p e below T54 m 121 #[iv i0, iv i1, iv i2, iv i3, iv i4, iv i1, iv i3, rv b3, iv (0 : Int32), iv (1 : Int32), iv (0 : Int32)] [(.int (1 : Int32))] _
  exact retN X54 hx (t := .boolean) Bd.returns (by simp) (hb hby at_121) hr
theorem d15_11 : decode prog_22_method_3_code 11 = .ok (.aload_n 0, 1) := by decide +kernel
theorem d15_12 : decode prog_22_method_3_code 12 = .ok (.getfield 7, 3) := by decide +kernel
theorem d15_15 : decode prog_22_method_3_code 15 = .ok (.ldc 44, 2) := by decide +kernel
theorem d15_17 : decode prog_22_method_3_code 17 = .ok (.invokevirtual 36, 3) := by decide +kernel
theorem d15_20 : decode prog_22_method_3_code 20 = .ok (.ifCond .eq 7, 3) := by decide +kernel
def r15_3Q (Z : State) (a1 : Addr) (a2 : Addr) (a3 : Addr) (a4 : Addr) (a9 : Addr) (k11 : ClassId) (c12 : List Int32) (a17 : Addr) (k19 : ClassId) (c20 : List Int32) (p23 : Int32) (a30 : Addr) (a38 : Addr) (a46 : Addr) (k49 : ClassId) (c50 : List Int32) (k59 : ClassId) (c60 : List Int32) (h0 : Heap) (n0 : Nat) (v : Option Value) (h : Heap) (L : List Loc) : Prop := v = some (.int (1 : Int32)) ∧ Fr n0 L ∧ Keep h0 h []
set_option maxRecDepth 65536 in
set_option maxHeartbeats 40000000 in
theorem r15_3 (l : Launch) (Z : State) (a0 : Array Value) (hw : HW a0 Z) (ws : List Jvm.Cond) (a1 : Addr) (a2 : Addr) (a3 : Addr) (a4 : Addr) (a9 : Addr) (k11 : ClassId) (c12 : List Int32) (a17 : Addr) (k19 : ClassId) (c20 : List Int32) (p23 : Int32) (a30 : Addr) (a38 : Addr) (a46 : Addr) (k49 : ClassId) (c50 : List Int32) (k59 : ClassId) (c60 : List Int32) (h0 : Heap) (n0 : Nat) (O0 : Old Z n0 h0) (H5 : xF5 Z h0 a1 (.ref a4)) (H7 : xE1 Z h0 a4) (H8 : xF2 Z h0 a4 (.int (0 : Int32))) (H10 : xF0 Z h0 a4 (.ref a9)) (H13 : Arv Z h0 a9 k11 .byte (own_tn c12) (own_tb c12) (.int (0 : Int32))) (H14 : own_GT c12) (H15 : xE1 Z h0 a2) (H16 : xF2 Z h0 a2 (.int (0 : Int32))) (H18 : xF0 Z h0 a2 (.ref a17)) (H21 : Arv Z h0 a17 k19 .byte (own_tn c20) (own_tb c20) (.int (0 : Int32))) (H22 : own_GT c20) (H24 : Sta Z Z.heap "java/lang/String" "COMPACT_STRINGS" "Z" (.int p23)) (hc25 : ¬ (p23 = (0 : Int32))) (hc27 : (own_eqc c12 c20) = (0 : Int32)) (H31 : xF0 Z h0 a3 (.ref a30)) (hc37 : ¬ ((own_eqc c12 []) = (0 : Int32))) (H39 : xF7 Z h0 a1 (.ref a38)) (H42 : xE1 Z h0 a38) (H44 : xF2 Z h0 a38 (.int (0 : Int32))) (H47 : xF0 Z h0 a38 (.ref a46)) (H51 : Arv Z h0 a46 k49 .byte (own_tn c50) (own_tb c50) (.int (0 : Int32))) (H53 : own_GT c50) (H54 : xE1 Z h0 a3) (H56 : xF2 Z h0 a3 (.int (0 : Int32))) (H61 : Arv Z h0 a30 k59 .byte (own_tn c60) (own_tb c60) (.int (0 : Int32))) (H63 : own_GT c60) (hc65 : ¬ ((own_eqc c50 c60) = (0 : Int32))) :
    MFH l y15 prog_22_method_3_code 4 (some .boolean) ws ({ frames := 2, cells := 2, slots := 4, locals := 28 } : Room) Z #[(.ref a1), (.ref a2), (.ref a3)] h0 (r15_3Q Z a1 a2 a3 a4 a9 k11 c12 a17 k19 c20 p23 a30 a38 a46 k49 c50 k59 c60 h0 n0) := by
  refine own_inH (plainFor_of_name pn_com_example_agave_agave_store_RequestStore_StoredRequest) #[rv a1, rv a2, rv a3, un] (fun _ => by first | (simp [entryFrame, mkF, argsToLocals, Value.category]; done) | rfl) ?_
  intro p e s m below meth c s₁ Bd hx hby hml hown hnm hZ hh C0 e0 X0
  have N0 := Fr.nil n0
  obtain ⟨T6, X6, e6, st6⟩ := gF X0 hx hZ hown (ow hw 58 rfl) e0 H5 (g := (mkF m 1 #[rv a1, rv a2, rv a3, un] [(.ref a1)])) rfl rfl (hb hby d15_1)
  obtain ⟨cq26, kq26, q26a, q26b, q26c⟩ := isOf hZ e6 H7
  obtain ⟨T26, Lc26, _, X26, hQ26, st26⟩ := fl X6 (X6.virtualBack hx (y := y16) (z := y16) hown (mvT hZ (ow hw 87 rfl)) (mvT hZ (ow hw 88 rfl)) (notFace_of_selects (args := #[]) (mvT hZ (ow hw 90 rfl))) (mvT hZ (ow hw 90 rfl)) (mvT hZ (ow hw 89 rfl)) (by decide) (own_eqB (W := 0) n0 hZ hw (ow hw 11 rfl) H7 H10 H8 H13 H14 H15 H18 H16 H21 H22 (H24.ext O0.2) hc25 (by decide) (by decide)) q26a q26c (g := (mkF m 5 #[rv a1, rv a2, rv a3, un] [(.ref a2), (.ref a4)])) rfl (by rw [hml]; rfl) (Steps.refl _) (argsL := [(.ref a2)]) (rest := []) (lenOf pd__Ljava_lang_Object__Z rfl) rfl wf (hb hby d15_5) (fun _ _ => ⟨rfl, e6, (by decide : 0 + 0 ≤ _), (by decide : 0 + 0 ≤ _)⟩))
  obtain ⟨rfl, N26q, e26⟩ := hQ26
  have N26 := Fr.app N0 N26q
  obtain ⟨T28, X28, e28, st28⟩ := gF X26 hx hZ hown (ow hw 58 rfl) e26 H5 (g := (mkF m 12 #[rv a1, rv a2, rv a3, un] [(.ref a1)])) rfl rfl (hb hby d15_12)
  obtain ⟨a29, T29, h29, kk29, b29, k29, X29, e29, E29, hS29, hk29, hZ29, hown29, Ea29, Fc29, Fv29, Ab29, -, -, Cq29, -, hne29, st29⟩ := ldcCH (s := s) (vm0 := s.vm) X28 hx hZ (own := "com/example/agave/agave/store/RequestStore$StoredRequest") hown (ow hw 98 rfl) (fun d hd => hw d (strW d hd)) e28 (State.WarmedH.since (State.WarmedH.refl s) 0) (Nat.zero_le _) (own_EW hw) (List.mem_of_getElem? (i := 0) rfl) C0.1 (vs := []) (z := 0) own_lit0 (by decide) rfl (g := (mkF m 15 #[rv a1, rv a2, rv a3, un] [(.ref a4)])) rfl (hb hby d15_15) (n := 0) (by decide) (by decide) (by decide) (by decide)
  have O_E29 : Old Z n0 h29 := O0.ext E29
  have Kp_E29 : Keep h0 h29 [] := (Keep.refl h0 []).ext E29
  have c_E29 := Cq29
  have C_E29 := C0.trans c_E29
  have Av29 : Arv Z h29 b29 k29 .byte (own_tn []) (own_tb []) (.int (0 : Int32)) := Ab29
  have f32 := (H7.ext E29)
  have f33 := (H8.ext E29)
  have f34 := (H10.ext E29)
  have f35 := (H13.ext E29)
  obtain ⟨cq36, kq36, q36a, q36b, q36c⟩ := isOf hZ29 e29 f32
  obtain ⟨T36, Lc36, _, X36, hQ36, st36⟩ := fl X29 (X29.virtualBack hx (y := y16) (z := y16) hown29 (mvT hZ29 (ow hw 87 rfl)) (mvT hZ29 (ow hw 88 rfl)) (notFace_of_selects (args := #[]) (mvT hZ29 (ow hw 90 rfl))) (mvT hZ29 (ow hw 90 rfl)) (mvT hZ29 (ow hw 89 rfl)) (by decide) (own_eqB (W := 0) n0 hZ29 hw (ow hw 11 rfl) f32 f34 f33 f35 H14 Ea29 Fv29 Fc29 Av29 own_gt0 (H24.ext O_E29.2) hc25 (by decide) (by decide)) q36a q36c (g := (mkF m 17 #[rv a1, rv a2, rv a3, un] [(.ref a29), (.ref a4)])) rfl (by rw [hml]; rfl) (Steps.refl _) (argsL := [(.ref a29)]) (rest := []) (lenOf pd__Ljava_lang_Object__Z rfl) rfl wf (hb hby d15_17) (fun _ _ => ⟨rfl, e29, (by decide : 2 + 0 ≤ _), (by decide : 4 + 0 ≤ _)⟩))
  obtain ⟨rfl, N36q, e36⟩ := hQ36
  have N36 := Fr.app N26 N36q
  have f40 := (H39.ext E29)
  obtain ⟨T41, X41, e41, st41⟩ := gF X36 hx hZ29 hown29 (ow hw 60 rfl) e36 f40 (g := (mkF m 34 #[rv a1, rv a2, rv a3, iv (1 : Int32)] [(.ref a1)])) rfl rfl (hb hby d15_34)
  have f43 := (H42.ext E29)
  have f45 := (H44.ext E29)
  have f48 := (H47.ext E29)
  have f52 := (H51.ext E29)
  have f55 := (H54.ext E29)
  have f57 := (H56.ext E29)
  have f58 := (H31.ext E29)
  have f62 := (H61.ext E29)
  obtain ⟨cq64, kq64, q64a, q64b, q64c⟩ := isOf hZ29 e41 f43
  obtain ⟨T64, Lc64, _, X64, hQ64, st64⟩ := fl X41 (X41.virtualBack hx (y := y16) (z := y16) hown29 (mvT hZ29 (ow hw 87 rfl)) (mvT hZ29 (ow hw 88 rfl)) (notFace_of_selects (args := #[]) (mvT hZ29 (ow hw 90 rfl))) (mvT hZ29 (ow hw 90 rfl)) (mvT hZ29 (ow hw 89 rfl)) (by decide) (own_eqB (W := 0) n0 hZ29 hw (ow hw 11 rfl) f43 f48 f45 f52 H53 f55 f58 f57 f62 H63 (H24.ext O_E29.2) hc25 (by decide) (by decide)) q64a q64c (g := (mkF m 38 #[rv a1, rv a2, rv a3, iv (1 : Int32)] [(.ref a3), (.ref a38)])) rfl (by rw [hml]; rfl) (Steps.refl _) (argsL := [(.ref a3)]) (rest := []) (lenOf pd__Ljava_lang_Object__Z rfl) rfl wf (hb hby d15_38) (fun _ _ => ⟨rfl, e41, (by decide : 2 + 0 ≤ _), (by decide : 4 + 0 ≤ _)⟩))
  obtain ⟨rfl, N64q, e64⟩ := hQ64
  have N64 := Fr.app N36 N64q
  refine finH (Q := r15_3Q Z a1 a2 a3 a4 a9 k11 c12 a17 k19 c20 p23 a30 a38 a46 k49 c50 k59 c60 h0 n0) (rm := ({ frames := 2, cells := 2, slots := 4, locals := 28 } : Room)) (vm := T29.vm) Bd X64 hZ29 (own_EW hw) C_E29 hh e64 hS29 hk29 (some (.int (1 : Int32))) nofun ⟨rfl, N64, Kp_E29⟩ (by decide) (by decide) fun fs hr => ?_
  show St p e below s₁ m 0 #[rv a1, rv a2, rv a3, un] [] _
  refine XS.aloadN X0.here hx rfl (hb hby d15_0) rfl rfl ?_
  refine st6 _ ?_
  refine XS.aloadN X6.here hx rfl (hb hby d15_4) rfl rfl ?_
  refine st26.trans ?_
  refine XS.ifNo X26.here hx rfl (hb hby d15_8) rfl ((if0 _ _).trans (teq hc27).2) ?_
  refine XS.aloadN X26.here hx rfl (hb hby d15_11) rfl rfl ?_
  refine st28 _ ?_
  refine st29 _ ?_
  refine st36.trans ?_
  refine XS.ifNo X36.here hx rfl (hb hby d15_20) rfl ((if0 _ _).trans (feq hc37).1) ?_
  refine XS.iconst X36.here hx rfl (hb hby d15_23) ?_
  refine XS.goto X36.here hx rfl (pc0 := 24) (pc' := 28) rfl (hb hby d15_24) (by decide) (by decide) ?_
  refine XS.istoreN X36.here hx rfl (hb hby d15_28) rfl (l' := #[rv a1, rv a2, rv a3, iv (1 : Int32)]) rfl ?_
  refine XS.iloadN X36.here hx rfl (hb hby d15_29) rfl ?_
  refine XS.ifNo X36.here hx rfl (hb hby d15_30) rfl ((if0 _ _).trans (feq (by decide : ¬ ((1 : Int32) = (0 : Int32)))).1) ?_
  refine XS.aloadN X36.here hx rfl (hb hby d15_33) rfl rfl ?_
  refine st41 _ ?_
  refine XS.aloadN X41.here hx rfl (hb hby d15_37) rfl rfl ?_
  refine st64.trans ?_
  refine XS.ifNo X64.here hx rfl (hb hby d15_41) rfl ((if0 _ _).trans (feq hc65).1) ?_
  refine XS.iconst X64.here hx rfl (hb hby d15_44) ?_
  refine XS.goto X64.here hx rfl (pc0 := 45) (pc' := 49) rfl (hb hby d15_45) (by decide) (by decide) ?_
  exact retN X64 hx (t := .boolean) Bd.returns (by simp) (hb hby d15_49) hr
set_option maxRecDepth 65536 in
set_option maxHeartbeats 40000000 in
theorem law_7 (l : Launch) (Z : State) (a0 : Array Value) (hw : HW a0 Z) (ws : List Jvm.Cond) (zCOMPACT_STRINGS : Int32) (B : Base Z zCOMPACT_STRINGS) (i0 : Int32) (i1 : Int32) (i2 : Int32) (i3 : Int32) (i4 : Int32) (h0 : Heap) (n0 : Nat) (O0 : Old Z n0 h0) (hc1 : (i4 &&& (1 : Int32)) = (0 : Int32)) (hc2 : ¬ ((i4 &&& (2 : Int32)) = (0 : Int32))) (hc44 : (own_eqc (own_tl i0) (own_tl i1)) = (0 : Int32)) (hc45 : ¬ ((own_eqc (own_tl i0) []) = (0 : Int32))) (hc52 : ¬ ((own_eqc (own_tl i2) (own_tl i2)) = (0 : Int32))) (hc56 : ((i0 &&& (3 : Int32)) % (3 : Int32)) = (0 : Int32)) :
    MFH l x code maxLocals ret ws room_1 Z #[(.int i0), (.int i1), (.int i2), (.int i3), (.int i4)] h0 (lawQ n0) := by
  refine own_inH (plainFor_of_name pn_com_example_agave_agave_store_StoredRequestIsSameRequestPinLaw) #[iv i0, iv i1, iv i2, iv i3, iv i4, un, un, un, un, un, un] (fun _ => by first | (simp [entryFrame, mkF, argsToLocals, Value.category, maxLocals]; done) | rfl) ?_
  intro p e s m below meth c s₁ Bd hx hby hml hown hnm hZ hh C0 e0 X0
  have N0 := Fr.nil n0
  obtain ⟨B0, B1⟩ := B
  obtain ⟨T3, h3, X3, e3, E3, A3, D3, -, st3⟩ := newO X0 hx hZ hown (ow hw 0 rfl) (ow hw 1 rfl) (ow hw 2 rfl) e0 (g := (mkF m 28 #[iv i0, iv i1, iv i2, iv i3, iv i4, iv i1, iv i2, un, un, un, un] [])) rfl (hb hby at_28) (by decide) (by decide)
  obtain ⟨b3, g3⟩ : ∃ z, z = h0.size := ⟨_, rfl⟩
  rw [← g3] at A3 D3 st3
  have O_E3 : Old Z n0 h3 := O0.ext E3
  have Kp_E3 : Keep h0 h3 [] := (Keep.refl h0 []).ext E3
  have c_E3 := CHr.ext E3 C0.1
  have C_E3 := C0.trans c_E3
  obtain ⟨T5, Lc5, _, X5, hSq5, hg5, Cq5, hQ5, st5⟩ := flH X3 (Jvm.RoadKit.callSS X3 hx (y := y0) hown (mvT hZ (ow hw 3 rfl)) (mvT hZ (ow hw 4 rfl)) (mvT hZ (ow hw 5 rfl)) (mvT hZ (ow hw 6 rfl)) (by decide) (backOfSH (s := s) (vm0 := s.vm) (W := 2) (own_text l Z a0 hw [] i0 zCOMPACT_STRINGS h3 n0 O_E3 B0 B1) hZ (ow hw 6 rfl) (ow hw 5 rfl) (by decide) (by decide) (own_EW hw) C_E3.1) (g := (mkF m 33 #[iv i0, iv i1, iv i2, iv i3, iv i4, iv i1, iv i2, un, un, un, un] [(.int i0), (.ref b3), (.ref b3)])) rfl (by rw [hml]; rfl) (argsL := [(.int i0)]) (rest := [(.ref b3), (.ref b3)]) (lenOf pd__I_Ljava_lang_String_ rfl) rfl wf (hb hby at_33) (fun _ _ => ⟨rfl, e3, (by decide : 1 + 6 ≤ _), (by decide : 5 + 12 ≤ _)⟩))
  obtain ⟨Y5, hS5, hZ5, hown5⟩ := rebS (s := s) (vm0 := s.vm) (State.WarmedH.since (State.WarmedH.refl s) 0) (by rw [e3]; exact (Nat.zero_le _)) X5 hSq5 hg5 hZ hown
  obtain ⟨b5_0, b5_1, k5_0, rfl, N5q, K5, lo5_1, f5_2, f5_3, f5_4, f5_5⟩ := hQ5
  have N5 := Fr.app N0 N5q
  have O_K5 : Old Z n0 T5.heap := O_E3.keep K5 all0
  have Kp_K5 : Keep h0 T5.heap [] := Kp_E3.trans K5 all0
  have c_K5 := Cq5
  have C_K5 := C_E3.trans c_K5
  have f6 := (A3.keep K5)
  have ne7 := Exa.neArv f6 f5_5 (ow hw 1 rfl)
  obtain ⟨T8, Lc8, _, X8, hSq8, hg8, Cq8, hQ8, st8⟩ := flH Y5 (Jvm.RoadKit.callSS Y5 hx (y := y0) hown5 (mvT hZ5 (ow hw 3 rfl)) (mvT hZ5 (ow hw 4 rfl)) (mvT hZ5 (ow hw 5 rfl)) (mvT hZ5 (ow hw 6 rfl)) (by decide) (backOfSH (s := s) (vm0 := T5.vm) (W := 3) (own_text l Z a0 hw [] i2 zCOMPACT_STRINGS T5.heap n0 O_K5 B0 B1) hZ5 (ow hw 6 rfl) (ow hw 5 rfl) (by decide) (by decide) (own_EW hw) C_K5.1) (g := (mkF m 37 #[iv i0, iv i1, iv i2, iv i3, iv i4, iv i1, iv i2, un, un, un, un] [(.int i2), (.ref b5_0), (.ref b3), (.ref b3)])) rfl (by rw [hml]; rfl) (argsL := [(.int i2)]) (rest := [(.ref b5_0), (.ref b3), (.ref b3)]) (lenOf pd__I_Ljava_lang_String_ rfl) rfl wf (hb hby at_37) (fun _ _ => ⟨rfl, rfl, (by decide : 7 + 6 ≤ _), (by decide : 17 + 12 ≤ _)⟩))
  obtain ⟨Y8, hS8, hZ8, hown8⟩ := rebS (s := s) (vm0 := T5.vm) hS5 (Nat.le_refl _) X8 hSq8 hg8 hZ5 hown5
  obtain ⟨b8_0, b8_1, k8_0, rfl, N8q, K8, lo8_1, f8_2, f8_3, f8_4, f8_5⟩ := hQ8
  have N8 := Fr.app N5 N8q
  have O_K8 : Old Z n0 T8.heap := O_K5.keep K8 all0
  have Kp_K8 : Keep h0 T8.heap [] := Kp_K5.trans K8 all0
  have c_K8 := Cq8
  have C_K8 := C_K5.trans c_K8
  have f9 := (f5_2.keep K8)
  have ne10 := Exa.neArv f9 f8_5 (ow hw 11 rfl)
  have f11 := (f6.keep K8)
  have ne12 := Exa.neArv f11 f8_5 (ow hw 1 rfl)
  have f13 : xF5 Z h3 b3 .null := D3 (Or.inr (ow hw 59 rfl)) (ty := (.object "java/lang/String")) (by decide)
  have f14 := ((f13.keep K5 nin0).keep K8 nin0)
  have g15 : n0 ≤ b3 := Nat.le_trans (Nat.le_trans (Nat.le_of_eq O0.1.symm) O0.2.1) (Nat.le_of_eq g3.symm)
  have f16 : xF7 Z h3 b3 .null := D3 (Or.inr (ow hw 61 rfl)) (ty := (.object "java/lang/String")) (by decide)
  have f17 := ((f16.keep K5 nin0).keep K8 nin0)
  have f18 : xF8 Z h3 b3 .null := D3 (Or.inr (ow hw 63 rfl)) (ty := (.object "java/util/Optional")) (by decide)
  have f19 := ((f18.keep K5 nin0).keep K8 nin0)
  have f20 : xF9 Z h3 b3 .null := D3 (Or.inr (ow hw 65 rfl)) (ty := (.object "java/util/Optional")) (by decide)
  have f21 := ((f20.keep K5 nin0).keep K8 nin0)
  have f22 : xF10 Z h3 b3 .null := D3 (Or.inr (ow hw 67 rfl)) (ty := (.object "java/util/Optional")) (by decide)
  have f23 := ((f22.keep K5 nin0).keep K8 nin0)
  obtain ⟨T24, Lc24, _, X24, hQ24, st24⟩ := fl Y8 (Y8.specialBack hx (y := y13) rfl hown8 (mvT hZ8 (ow hw 49 rfl)) (mvT hZ8 (ow hw 50 rfl)) (mvT hZ8 (ow hw 51 rfl)) (by decide) (backOf (W := 1) (r13_1 l Z a0 hw [] b3 b5_0 b8_0 T8.heap n0 O_K8 f14 f11 g15 f17 f19 f21 f23) hZ8 (ow hw 51 rfl) (ow hw 2 rfl) (by decide) (by decide)) (g := (mkF m 43 #[iv i0, iv i1, iv i2, iv i3, iv i4, iv i1, iv i2, un, un, un, un] [.null, .null, .null, (.ref b8_0), (.ref b5_0), (.ref b3), (.ref b3)])) rfl (by rw [hml]; rfl) (Steps.refl _) (a := b3) (argsL := [(.ref b5_0), (.ref b8_0), .null, .null, .null]) (rest := [(.ref b3)]) (lenOf pd__Ljava_lang_String_Ljava_lang_String_Ljava_util_Optional_Ljava_util_Optional_Ljava_util_Optional__V rfl) rfl wf (hb hby at_43) (fun _ _ => ⟨rfl, rfl, (by decide : 13 + 0 ≤ _), (by decide : 29 + 0 ≤ _)⟩))
  obtain ⟨rfl, N24q, K24, f24_1, f24_2, f24_3, f24_4, f24_5, f24_6⟩ := hQ24
  have N24 := Fr.app N8 N24q
  have sf25 := (c_K8.safe (A3.keep K5).lt (c_K5.safe A3.lt (Safe.ext E3 C0.1 (Safe.new (Nat.le_of_eq g3.symm)))))
  have z26 : h0.size ≤ b3 := Nat.le_trans (Keep.refl h0 []).1 (Nat.le_of_eq g3.symm)
  have O_K24 : Old Z n0 T24.heap := O_K8.keep K24 (allS g15 all0)
  have Kp_K24 : Keep h0 T24.heap [] := Kp_K8.trans K24 (allS (Or.inr z26) all0)
  have c_K24 := CHr.keep K24 (allS sf25 all0) C_K8.1
  have C_K24 := C_K8.trans c_K24
  obtain ⟨T27, Lc27, _, X27, hSq27, hg27, Cq27, hQ27, st27⟩ := flH X24 (Jvm.RoadKit.callSS X24 hx (y := y0) hown8 (mvT hZ8 (ow hw 3 rfl)) (mvT hZ8 (ow hw 4 rfl)) (mvT hZ8 (ow hw 5 rfl)) (mvT hZ8 (ow hw 6 rfl)) (by decide) (backOfSH (s := s) (vm0 := T8.vm) (W := 1) (own_text l Z a0 hw [] i1 zCOMPACT_STRINGS T24.heap n0 O_K24 B0 B1) hZ8 (ow hw 6 rfl) (ow hw 5 rfl) (by decide) (by decide) (own_EW hw) C_K24.1) (g := (mkF m 52 #[iv i0, iv i1, iv i2, iv i3, iv i4, iv i1, iv i2, rv b3, un, un, un] [(.int i1), (.ref b3)])) rfl (by rw [hml]; rfl) (argsL := [(.int i1)]) (rest := [(.ref b3)]) (lenOf pd__I_Ljava_lang_String_ rfl) rfl wf (hb hby at_52) (fun _ _ => ⟨rfl, rfl, (by decide : 13 + 6 ≤ _), (by decide : 29 + 12 ≤ _)⟩))
  obtain ⟨Y27, hS27, hZ27, hown27⟩ := rebS (s := s) (vm0 := T8.vm) hS8 (Nat.le_trans (Nat.le_refl _) K24.1) X27 hSq27 hg27 hZ8 hown8
  obtain ⟨b27_0, b27_1, k27_0, rfl, N27q, K27, lo27_1, f27_2, f27_3, f27_4, f27_5⟩ := hQ27
  have N27 := Fr.app N24 N27q
  have O_K27 : Old Z n0 T27.heap := O_K24.keep K27 all0
  have Kp_K27 : Keep h0 T27.heap [] := Kp_K24.trans K27 all0
  have c_K27 := Cq27
  have C_K27 := C_K24.trans c_K27
  have f28 := (f24_2.keep K27)
  have ne29 := Exa.neArv f28 f27_5 (ow hw 1 rfl)
  obtain ⟨T30, Lc30, _, X30, hSq30, hg30, Cq30, hQ30, st30⟩ := flH Y27 (Jvm.RoadKit.callSS Y27 hx (y := y0) hown27 (mvT hZ27 (ow hw 3 rfl)) (mvT hZ27 (ow hw 4 rfl)) (mvT hZ27 (ow hw 5 rfl)) (mvT hZ27 (ow hw 6 rfl)) (by decide) (backOfSH (s := s) (vm0 := T27.vm) (W := 2) (own_text l Z a0 hw [] i2 zCOMPACT_STRINGS T27.heap n0 O_K27 B0 B1) hZ27 (ow hw 6 rfl) (ow hw 5 rfl) (by decide) (by decide) (own_EW hw) C_K27.1) (g := (mkF m 57 #[iv i0, iv i1, iv i2, iv i3, iv i4, iv i1, iv i2, rv b3, un, un, un] [(.int i2), (.ref b27_0), (.ref b3)])) rfl (by rw [hml]; rfl) (argsL := [(.int i2)]) (rest := [(.ref b27_0), (.ref b3)]) (lenOf pd__I_Ljava_lang_String_ rfl) rfl wf (hb hby at_57) (fun _ _ => ⟨rfl, rfl, (by decide : 19 + 6 ≤ _), (by decide : 41 + 12 ≤ _)⟩))
  obtain ⟨Y30, hS30, hZ30, hown30⟩ := rebS (s := s) (vm0 := T27.vm) hS27 (Nat.le_refl _) X30 hSq30 hg30 hZ27 hown27
  obtain ⟨b30_0, b30_1, k30_0, rfl, N30q, K30, lo30_1, f30_2, f30_3, f30_4, f30_5⟩ := hQ30
  have N30 := Fr.app N27 N30q
  have O_K30 : Old Z n0 T30.heap := O_K27.keep K30 all0
  have Kp_K30 : Keep h0 T30.heap [] := Kp_K27.trans K30 all0
  have c_K30 := Cq30
  have C_K30 := C_K27.trans c_K30
  have f31 := (f28.keep K30)
  have ne32 := Exa.neArv f31 f30_5 (ow hw 1 rfl)
  have f33 := (f27_2.keep K30)
  have ne34 := Exa.neArv f33 f30_5 (ow hw 11 rfl)
  have f35 := ((f24_1.keep K27 nin0).keep K30 nin0)
  have f36 := (((f9.keep K24).keep K27).keep K30)
  have ne37 : b3 ≠ b5_0 := Nat.ne_of_lt (Nat.lt_of_lt_of_le A3.lt lo5_1)
  have f38 := ((((f5_3.keep K8 nin0).keep K24 (ninS (Ne.symm ne37) nin0)).keep K27 nin0).keep K30 nin0)
  have f39 := ((((f5_4.keep K8 nin0).keep K24 (ninS (Ne.symm ne37) nin0)).keep K27 nin0).keep K30 nin0)
  have f40 := ((((f5_5.keep K8 nin0).keep K24 (ninS (Ne.symm ne7) nin0)).keep K27 nin0).keep K30 nin0)
  have f41 := (f27_3.keep K30 nin0)
  have f42 := (f27_4.keep K30 nin0)
  have f43 := (f27_5.keep K30 nin0)
  have f46 := ((f24_3.keep K27 nin0).keep K30 nin0)
  have f47 := (((f8_2.keep K24).keep K27).keep K30)
  have ne48 : b3 ≠ b8_0 := Nat.ne_of_lt (Nat.lt_of_lt_of_le (A3.keep K5).lt lo8_1)
  have f49 := (((f8_3.keep K24 (ninS (Ne.symm ne48) nin0)).keep K27 nin0).keep K30 nin0)
  have f50 := (((f8_4.keep K24 (ninS (Ne.symm ne48) nin0)).keep K27 nin0).keep K30 nin0)
  have f51 := (((f8_5.keep K24 (ninS (Ne.symm ne12) nin0)).keep K27 nin0).keep K30 nin0)
  obtain ⟨cq53, kq53, q53a, q53b, q53c⟩ := isOf hZ30 rfl f31
  obtain ⟨T53, Lc53, _, X53, hSq53, hg53, Cq53, hQ53, st53⟩ := flH Y30 (Y30.virtualBackS hx (y := y15) (z := y15) hown30 (mvT hZ30 (ow hw 82 rfl)) (mvT hZ30 (ow hw 83 rfl)) (notFace_of_selects (args := #[]) (mvT hZ30 (ow hw 85 rfl))) (mvT hZ30 (ow hw 85 rfl)) (mvT hZ30 (ow hw 84 rfl)) (by decide) (backOfSH (s := s) (vm0 := T30.vm) (W := 0) (r15_3 l Z a0 hw [] b3 b27_0 b30_0 b5_0 b5_1 k5_0 (own_tl i0) b27_1 k27_0 (own_tl i1) zCOMPACT_STRINGS b30_1 b8_0 b8_1 k8_0 (own_tl i2) k30_0 (own_tl i2) T30.heap n0 O_K30 f35 f36 f38 f39 f40 (own_gt _) f33 f41 f42 f43 (own_gt _) B0 B1 hc44 f30_4 hc45 f46 f47 f49 f50 f51 (own_gt _) f30_2 f30_3 f30_5 (own_gt _) hc52) hZ30 (ow hw 86 rfl) (ow hw 2 rfl) (by decide) (by decide) (own_EW hw) C_K30.1) q53a q53c (g := (mkF m 60 #[iv i0, iv i1, iv i2, iv i3, iv i4, iv i1, iv i2, rv b3, un, un, un] [(.ref b30_0), (.ref b27_0), (.ref b3)])) rfl (by rw [hml]; rfl) (Steps.refl _) (argsL := [(.ref b27_0), (.ref b30_0)]) (rest := []) (lenOf pd__Ljava_lang_String_Ljava_lang_String__Z rfl) rfl wf (hb hby at_60) (fun _ _ => ⟨rfl, rfl, (by decide : 25 + 2 ≤ _), (by decide : 53 + 4 ≤ _)⟩))
  obtain ⟨Y53, hS53, hZ53, hown53⟩ := rebS (s := s) (vm0 := T30.vm) hS30 (Nat.le_refl _) X53 hSq53 hg53 hZ30 hown30
  obtain ⟨rfl, N53q, K53⟩ := hQ53
  have N53 := Fr.app N30 N53q
  have O_K53 : Old Z n0 T53.heap := O_K30.keep K53 all0
  have Kp_K53 : Keep h0 T53.heap [] := Kp_K30.trans K53 all0
  have c_K53 := Cq53
  have C_K53 := C_K30.trans c_K53
  obtain ⟨T54, Lc54, _, X54, hQ54, st54⟩ := flC Y53 (Jvm.LawKit.callS Y53 hx (y := y17) hown53 (mvT hZ53 (ow hw 95 rfl)) (mvT hZ53 (ow hw 96 rfl)) (mvT hZ53 (ow hw 5 rfl)) (mvT hZ53 (ow hw 97 rfl)) (by decide) (backOf (W := 0) (own_same l Z a0 hw [] i0 i1 T53.heap n0 O_K53) hZ53 (ow hw 97 rfl) (ow hw 5 rfl) (by decide) (by decide)) (g := (mkF m 68 #[iv i0, iv i1, iv i2, iv i3, iv i4, iv i1, iv i2, rv b3, iv (1 : Int32), un, un] [(.int i1), (.int i0)])) rfl (by rw [hml]; rfl) (argsL := [(.int i0), (.int i1)]) (rest := []) (lenOf pd__II_Z rfl) rfl wf (hb hby at_68) (fun _ _ => ⟨rfl, rfl, (by decide : 27 + 0 ≤ _), (by decide : 57 + 0 ≤ _)⟩))
  obtain ⟨rfl, N54q, e54⟩ := hQ54
  have N54 := Fr.app N53 N54q
  obtain ⟨T55, Lc55, _, X55, hQ55, st55⟩ := flC X54 (Jvm.LawKit.callS X54 hx (y := y1) hown53 (mvT hZ53 (ow hw 7 rfl)) (mvT hZ53 (ow hw 8 rfl)) (mvT hZ53 (ow hw 5 rfl)) (mvT hZ53 (ow hw 9 rfl)) (by decide) (backOf (W := 0) (r1_1 l Z a0 hw [] i0 T53.heap n0 O_K53) hZ53 (ow hw 9 rfl) (ow hw 5 rfl) (by decide) (by decide)) (g := (mkF m 75 #[iv i0, iv i1, iv i2, iv i3, iv i4, iv i1, iv i2, rv b3, iv (1 : Int32), un, un] [(.int i0)])) rfl (by rw [hml]; rfl) (argsL := [(.int i0)]) (rest := []) (lenOf pd__I_I rfl) rfl wf (hb hby at_75) (fun _ _ => ⟨rfl, e54, (by decide : 27 + 0 ≤ _), (by decide : 57 + 0 ≤ _)⟩))
  obtain ⟨rfl, N55q, e55⟩ := hQ55
  have N55 := Fr.app N54 N55q
  obtain ⟨T57, Lc57, _, X57, hQ57, st57⟩ := flC X55 (Jvm.LawKit.callS X55 hx (y := y17) hown53 (mvT hZ53 (ow hw 95 rfl)) (mvT hZ53 (ow hw 96 rfl)) (mvT hZ53 (ow hw 5 rfl)) (mvT hZ53 (ow hw 97 rfl)) (by decide) (backOf (W := 0) (own_same l Z a0 hw [] i2 i2 T53.heap n0 O_K53) hZ53 (ow hw 97 rfl) (ow hw 5 rfl) (by decide) (by decide)) (g := (mkF m 96 #[iv i0, iv i1, iv i2, iv i3, iv i4, iv i1, iv i2, rv b3, iv (1 : Int32), iv (1 : Int32), un] [(.int i2), (.int i2)])) rfl (by rw [hml]; rfl) (argsL := [(.int i2), (.int i2)]) (rest := []) (lenOf pd__II_Z rfl) rfl wf (hb hby at_96) (fun _ _ => ⟨rfl, e55, (by decide : 27 + 0 ≤ _), (by decide : 57 + 0 ≤ _)⟩))
  obtain ⟨rfl, N57q, e57⟩ := hQ57
  have N57 := Fr.app N55 N57q
  refine finH (Q := lawQ n0) (rm := room_1) (vm := T53.vm) Bd X57 hZ53 (own_EW hw) C_K53 hh e57 hS53 (Nat.le_refl _) (some (.int (1 : Int32))) nofun ⟨rfl, N57⟩ (by decide) (by decide) fun fs hr => ?_
  show St p e below s₁ m 0 #[iv i0, iv i1, iv i2, iv i3, iv i4, un, un, un, un, un, un] [] _
  refine XS.iload X0.here hx rfl (hb hby at_0) rfl ?_
  refine XS.iconst X0.here hx rfl (hb hby at_2) ?_
  refine XS.iand X0.here hx rfl (hb hby at_3) rfl ?_
  refine XS.ifYes X0.here hx rfl (pc0 := 4) (pc' := 11) rfl (hb hby at_4) rfl ((if0 _ _).trans (teq hc1).1) (by decide) (by decide) ?_
  refine XS.iloadN X0.here hx rfl (hb hby at_11) rfl ?_
  refine XS.istore X0.here hx rfl (hb hby at_12) rfl (l' := #[iv i0, iv i1, iv i2, iv i3, iv i4, iv i1, un, un, un, un, un]) rfl ?_
  refine XS.iload X0.here hx rfl (hb hby at_14) rfl ?_
  refine XS.iconst X0.here hx rfl (hb hby at_16) ?_
  refine XS.iand X0.here hx rfl (hb hby at_17) rfl ?_
  refine XS.ifNo X0.here hx rfl (hb hby at_18) rfl ((if0 _ _).trans (feq hc2).1) ?_
  refine XS.iloadN X0.here hx rfl (hb hby at_21) rfl ?_
  refine XS.goto X0.here hx rfl (pc0 := 22) (pc' := 26) rfl (hb hby at_22) (by decide) (by decide) ?_
  refine XS.istore X0.here hx rfl (hb hby at_26) rfl (l' := #[iv i0, iv i1, iv i2, iv i3, iv i4, iv i1, iv i2, un, un, un, un]) rfl ?_
  refine st3 _ ?_
  refine XS.dup X3.here hx rfl (hb hby at_31) rfl rfl ?_
  refine XS.iloadN X3.here hx rfl (hb hby at_32) rfl ?_
  refine st5.trans ?_
  refine XS.iloadN Y5.here hx rfl (hb hby at_36) rfl ?_
  refine st8.trans ?_
  refine XS.aconstNull Y8.here hx rfl (hb hby at_40) ?_
  refine XS.aconstNull Y8.here hx rfl (hb hby at_41) ?_
  refine XS.aconstNull Y8.here hx rfl (hb hby at_42) ?_
  refine st24.trans ?_
  refine XS.astore X24.here hx rfl (hb hby at_46) rfl rfl (l' := #[iv i0, iv i1, iv i2, iv i3, iv i4, iv i1, iv i2, rv b3, un, un, un]) rfl ?_
  refine XS.aload X24.here hx rfl (hb hby at_48) rfl rfl ?_
  show St p e below T24 m 50 #[iv i0, iv i1, iv i2, iv i3, iv i4, iv i1, iv i2, rv b3, un, un, un] [(.ref b3)] _
  refine XS.iload X24.here hx rfl (hb hby at_50) rfl ?_
  refine st27.trans ?_
  refine XS.iload Y27.here hx rfl (hb hby at_55) rfl ?_
  refine st30.trans ?_
  refine st53.trans ?_
  refine XS.istore Y53.here hx rfl (hb hby at_63) rfl (l' := #[iv i0, iv i1, iv i2, iv i3, iv i4, iv i1, iv i2, rv b3, iv (1 : Int32), un, un]) rfl ?_
  refine XS.iloadN Y53.here hx rfl (hb hby at_65) rfl ?_
  refine XS.iload Y53.here hx rfl (hb hby at_66) rfl ?_
  refine st54 _ ?_
  refine XS.ifNo X54.here hx rfl (hb hby at_71) rfl ((if0 _ _).trans (teq hc44).2) ?_
  refine XS.iloadN X54.here hx rfl (hb hby at_74) rfl ?_
  refine st55 _ ?_
  refine XS.ifNo X55.here hx rfl (hb hby at_78) rfl ((if0 _ _).trans (teq hc56).2) ?_
  refine XS.iconst X55.here hx rfl (hb hby at_81) ?_
  refine XS.goto X55.here hx rfl (pc0 := 82) (pc' := 86) rfl (hb hby at_82) (by decide) (by decide) ?_
  refine XS.istore X55.here hx rfl (hb hby at_86) rfl (l' := #[iv i0, iv i1, iv i2, iv i3, iv i4, iv i1, iv i2, rv b3, iv (1 : Int32), iv (1 : Int32), un]) rfl ?_
  refine XS.iload X55.here hx rfl (hb hby at_88) rfl ?_
  refine XS.ifNo X55.here hx rfl (hb hby at_90) rfl ((if0 _ _).trans (feq (by decide : ¬ ((1 : Int32) = (0 : Int32)))).1) ?_
  refine XS.iloadN X55.here hx rfl (hb hby at_93) rfl ?_
  refine XS.iload X55.here hx rfl (hb hby at_94) rfl ?_
  refine st57 _ ?_
  refine XS.ifNo X57.here hx rfl (hb hby at_99) rfl ((if0 _ _).trans (feq hc52).1) ?_
  refine XS.iconst X57.here hx rfl (hb hby at_102) ?_
  refine XS.goto X57.here hx rfl (pc0 := 103) (pc' := 107) rfl (hb hby at_103) (by decide) (by decide) ?_
  refine XS.istore X57.here hx rfl (hb hby at_107) rfl (l' := #[iv i0, iv i1, iv i2, iv i3, iv i4, iv i1, iv i2, rv b3, iv (1 : Int32), iv (1 : Int32), iv (1 : Int32)]) rfl ?_
  show St p e below T57 m 109 #[iv i0, iv i1, iv i2, iv i3, iv i4, iv i1, iv i2, rv b3, iv (1 : Int32), iv (1 : Int32), iv (1 : Int32)] [] _
  refine XS.iload X57.here hx rfl (hb hby at_109) rfl ?_
  refine XS.iload X57.here hx rfl (hb hby at_111) rfl ?_
  refine XS.icmpNo X57.here hx rfl (hb hby at_113) rfl (teq (rfl : (1 : Int32) = (1 : Int32))).2 ?_
  refine XS.iconst X57.here hx rfl (hb hby at_116) ?_
  refine XS.goto X57.here hx rfl (pc0 := 117) (pc' := 121) rfl (hb hby at_117) (by decide) (by decide) ?_
  exact retN X57 hx (t := .boolean) Bd.returns (by simp) (hb hby at_121) hr
set_option maxRecDepth 65536 in
set_option maxHeartbeats 40000000 in
theorem law_8 (l : Launch) (Z : State) (a0 : Array Value) (hw : HW a0 Z) (ws : List Jvm.Cond) (zCOMPACT_STRINGS : Int32) (B : Base Z zCOMPACT_STRINGS) (i0 : Int32) (i1 : Int32) (i2 : Int32) (i3 : Int32) (i4 : Int32) (h0 : Heap) (n0 : Nat) (O0 : Old Z n0 h0) (hc1 : (i4 &&& (1 : Int32)) = (0 : Int32)) (hc2 : (i4 &&& (2 : Int32)) = (0 : Int32)) (hc44 : (own_eqc (own_tl i0) (own_tl i1)) = (0 : Int32)) (hc45 : ¬ ((own_eqc (own_tl i0) []) = (0 : Int32))) (hc52 : ¬ ((own_eqc (own_tl i2) (own_tl i3)) = (0 : Int32))) (hc56 : ((i0 &&& (3 : Int32)) % (3 : Int32)) = (0 : Int32)) :
    MFH l x code maxLocals ret ws room_1 Z #[(.int i0), (.int i1), (.int i2), (.int i3), (.int i4)] h0 (lawQ n0) := by
  refine own_inH (plainFor_of_name pn_com_example_agave_agave_store_StoredRequestIsSameRequestPinLaw) #[iv i0, iv i1, iv i2, iv i3, iv i4, un, un, un, un, un, un] (fun _ => by first | (simp [entryFrame, mkF, argsToLocals, Value.category, maxLocals]; done) | rfl) ?_
  intro p e s m below meth c s₁ Bd hx hby hml hown hnm hZ hh C0 e0 X0
  have N0 := Fr.nil n0
  obtain ⟨B0, B1⟩ := B
  obtain ⟨T3, h3, X3, e3, E3, A3, D3, -, st3⟩ := newO X0 hx hZ hown (ow hw 0 rfl) (ow hw 1 rfl) (ow hw 2 rfl) e0 (g := (mkF m 28 #[iv i0, iv i1, iv i2, iv i3, iv i4, iv i1, iv i3, un, un, un, un] [])) rfl (hb hby at_28) (by decide) (by decide)
  obtain ⟨b3, g3⟩ : ∃ z, z = h0.size := ⟨_, rfl⟩
  rw [← g3] at A3 D3 st3
  have O_E3 : Old Z n0 h3 := O0.ext E3
  have Kp_E3 : Keep h0 h3 [] := (Keep.refl h0 []).ext E3
  have c_E3 := CHr.ext E3 C0.1
  have C_E3 := C0.trans c_E3
  obtain ⟨T5, Lc5, _, X5, hSq5, hg5, Cq5, hQ5, st5⟩ := flH X3 (Jvm.RoadKit.callSS X3 hx (y := y0) hown (mvT hZ (ow hw 3 rfl)) (mvT hZ (ow hw 4 rfl)) (mvT hZ (ow hw 5 rfl)) (mvT hZ (ow hw 6 rfl)) (by decide) (backOfSH (s := s) (vm0 := s.vm) (W := 2) (own_text l Z a0 hw [] i0 zCOMPACT_STRINGS h3 n0 O_E3 B0 B1) hZ (ow hw 6 rfl) (ow hw 5 rfl) (by decide) (by decide) (own_EW hw) C_E3.1) (g := (mkF m 33 #[iv i0, iv i1, iv i2, iv i3, iv i4, iv i1, iv i3, un, un, un, un] [(.int i0), (.ref b3), (.ref b3)])) rfl (by rw [hml]; rfl) (argsL := [(.int i0)]) (rest := [(.ref b3), (.ref b3)]) (lenOf pd__I_Ljava_lang_String_ rfl) rfl wf (hb hby at_33) (fun _ _ => ⟨rfl, e3, (by decide : 1 + 6 ≤ _), (by decide : 5 + 12 ≤ _)⟩))
  obtain ⟨Y5, hS5, hZ5, hown5⟩ := rebS (s := s) (vm0 := s.vm) (State.WarmedH.since (State.WarmedH.refl s) 0) (by rw [e3]; exact (Nat.zero_le _)) X5 hSq5 hg5 hZ hown
  obtain ⟨b5_0, b5_1, k5_0, rfl, N5q, K5, lo5_1, f5_2, f5_3, f5_4, f5_5⟩ := hQ5
  have N5 := Fr.app N0 N5q
  have O_K5 : Old Z n0 T5.heap := O_E3.keep K5 all0
  have Kp_K5 : Keep h0 T5.heap [] := Kp_E3.trans K5 all0
  have c_K5 := Cq5
  have C_K5 := C_E3.trans c_K5
  have f6 := (A3.keep K5)
  have ne7 := Exa.neArv f6 f5_5 (ow hw 1 rfl)
  obtain ⟨T8, Lc8, _, X8, hSq8, hg8, Cq8, hQ8, st8⟩ := flH Y5 (Jvm.RoadKit.callSS Y5 hx (y := y0) hown5 (mvT hZ5 (ow hw 3 rfl)) (mvT hZ5 (ow hw 4 rfl)) (mvT hZ5 (ow hw 5 rfl)) (mvT hZ5 (ow hw 6 rfl)) (by decide) (backOfSH (s := s) (vm0 := T5.vm) (W := 3) (own_text l Z a0 hw [] i2 zCOMPACT_STRINGS T5.heap n0 O_K5 B0 B1) hZ5 (ow hw 6 rfl) (ow hw 5 rfl) (by decide) (by decide) (own_EW hw) C_K5.1) (g := (mkF m 37 #[iv i0, iv i1, iv i2, iv i3, iv i4, iv i1, iv i3, un, un, un, un] [(.int i2), (.ref b5_0), (.ref b3), (.ref b3)])) rfl (by rw [hml]; rfl) (argsL := [(.int i2)]) (rest := [(.ref b5_0), (.ref b3), (.ref b3)]) (lenOf pd__I_Ljava_lang_String_ rfl) rfl wf (hb hby at_37) (fun _ _ => ⟨rfl, rfl, (by decide : 7 + 6 ≤ _), (by decide : 17 + 12 ≤ _)⟩))
  obtain ⟨Y8, hS8, hZ8, hown8⟩ := rebS (s := s) (vm0 := T5.vm) hS5 (Nat.le_refl _) X8 hSq8 hg8 hZ5 hown5
  obtain ⟨b8_0, b8_1, k8_0, rfl, N8q, K8, lo8_1, f8_2, f8_3, f8_4, f8_5⟩ := hQ8
  have N8 := Fr.app N5 N8q
  have O_K8 : Old Z n0 T8.heap := O_K5.keep K8 all0
  have Kp_K8 : Keep h0 T8.heap [] := Kp_K5.trans K8 all0
  have c_K8 := Cq8
  have C_K8 := C_K5.trans c_K8
  have f9 := (f5_2.keep K8)
  have ne10 := Exa.neArv f9 f8_5 (ow hw 11 rfl)
  have f11 := (f6.keep K8)
  have ne12 := Exa.neArv f11 f8_5 (ow hw 1 rfl)
  have f13 : xF5 Z h3 b3 .null := D3 (Or.inr (ow hw 59 rfl)) (ty := (.object "java/lang/String")) (by decide)
  have f14 := ((f13.keep K5 nin0).keep K8 nin0)
  have g15 : n0 ≤ b3 := Nat.le_trans (Nat.le_trans (Nat.le_of_eq O0.1.symm) O0.2.1) (Nat.le_of_eq g3.symm)
  have f16 : xF7 Z h3 b3 .null := D3 (Or.inr (ow hw 61 rfl)) (ty := (.object "java/lang/String")) (by decide)
  have f17 := ((f16.keep K5 nin0).keep K8 nin0)
  have f18 : xF8 Z h3 b3 .null := D3 (Or.inr (ow hw 63 rfl)) (ty := (.object "java/util/Optional")) (by decide)
  have f19 := ((f18.keep K5 nin0).keep K8 nin0)
  have f20 : xF9 Z h3 b3 .null := D3 (Or.inr (ow hw 65 rfl)) (ty := (.object "java/util/Optional")) (by decide)
  have f21 := ((f20.keep K5 nin0).keep K8 nin0)
  have f22 : xF10 Z h3 b3 .null := D3 (Or.inr (ow hw 67 rfl)) (ty := (.object "java/util/Optional")) (by decide)
  have f23 := ((f22.keep K5 nin0).keep K8 nin0)
  obtain ⟨T24, Lc24, _, X24, hQ24, st24⟩ := fl Y8 (Y8.specialBack hx (y := y13) rfl hown8 (mvT hZ8 (ow hw 49 rfl)) (mvT hZ8 (ow hw 50 rfl)) (mvT hZ8 (ow hw 51 rfl)) (by decide) (backOf (W := 1) (r13_1 l Z a0 hw [] b3 b5_0 b8_0 T8.heap n0 O_K8 f14 f11 g15 f17 f19 f21 f23) hZ8 (ow hw 51 rfl) (ow hw 2 rfl) (by decide) (by decide)) (g := (mkF m 43 #[iv i0, iv i1, iv i2, iv i3, iv i4, iv i1, iv i3, un, un, un, un] [.null, .null, .null, (.ref b8_0), (.ref b5_0), (.ref b3), (.ref b3)])) rfl (by rw [hml]; rfl) (Steps.refl _) (a := b3) (argsL := [(.ref b5_0), (.ref b8_0), .null, .null, .null]) (rest := [(.ref b3)]) (lenOf pd__Ljava_lang_String_Ljava_lang_String_Ljava_util_Optional_Ljava_util_Optional_Ljava_util_Optional__V rfl) rfl wf (hb hby at_43) (fun _ _ => ⟨rfl, rfl, (by decide : 13 + 0 ≤ _), (by decide : 29 + 0 ≤ _)⟩))
  obtain ⟨rfl, N24q, K24, f24_1, f24_2, f24_3, f24_4, f24_5, f24_6⟩ := hQ24
  have N24 := Fr.app N8 N24q
  have sf25 := (c_K8.safe (A3.keep K5).lt (c_K5.safe A3.lt (Safe.ext E3 C0.1 (Safe.new (Nat.le_of_eq g3.symm)))))
  have z26 : h0.size ≤ b3 := Nat.le_trans (Keep.refl h0 []).1 (Nat.le_of_eq g3.symm)
  have O_K24 : Old Z n0 T24.heap := O_K8.keep K24 (allS g15 all0)
  have Kp_K24 : Keep h0 T24.heap [] := Kp_K8.trans K24 (allS (Or.inr z26) all0)
  have c_K24 := CHr.keep K24 (allS sf25 all0) C_K8.1
  have C_K24 := C_K8.trans c_K24
  obtain ⟨T27, Lc27, _, X27, hSq27, hg27, Cq27, hQ27, st27⟩ := flH X24 (Jvm.RoadKit.callSS X24 hx (y := y0) hown8 (mvT hZ8 (ow hw 3 rfl)) (mvT hZ8 (ow hw 4 rfl)) (mvT hZ8 (ow hw 5 rfl)) (mvT hZ8 (ow hw 6 rfl)) (by decide) (backOfSH (s := s) (vm0 := T8.vm) (W := 1) (own_text l Z a0 hw [] i1 zCOMPACT_STRINGS T24.heap n0 O_K24 B0 B1) hZ8 (ow hw 6 rfl) (ow hw 5 rfl) (by decide) (by decide) (own_EW hw) C_K24.1) (g := (mkF m 52 #[iv i0, iv i1, iv i2, iv i3, iv i4, iv i1, iv i3, rv b3, un, un, un] [(.int i1), (.ref b3)])) rfl (by rw [hml]; rfl) (argsL := [(.int i1)]) (rest := [(.ref b3)]) (lenOf pd__I_Ljava_lang_String_ rfl) rfl wf (hb hby at_52) (fun _ _ => ⟨rfl, rfl, (by decide : 13 + 6 ≤ _), (by decide : 29 + 12 ≤ _)⟩))
  obtain ⟨Y27, hS27, hZ27, hown27⟩ := rebS (s := s) (vm0 := T8.vm) hS8 (Nat.le_trans (Nat.le_refl _) K24.1) X27 hSq27 hg27 hZ8 hown8
  obtain ⟨b27_0, b27_1, k27_0, rfl, N27q, K27, lo27_1, f27_2, f27_3, f27_4, f27_5⟩ := hQ27
  have N27 := Fr.app N24 N27q
  have O_K27 : Old Z n0 T27.heap := O_K24.keep K27 all0
  have Kp_K27 : Keep h0 T27.heap [] := Kp_K24.trans K27 all0
  have c_K27 := Cq27
  have C_K27 := C_K24.trans c_K27
  have f28 := (f24_2.keep K27)
  have ne29 := Exa.neArv f28 f27_5 (ow hw 1 rfl)
  obtain ⟨T30, Lc30, _, X30, hSq30, hg30, Cq30, hQ30, st30⟩ := flH Y27 (Jvm.RoadKit.callSS Y27 hx (y := y0) hown27 (mvT hZ27 (ow hw 3 rfl)) (mvT hZ27 (ow hw 4 rfl)) (mvT hZ27 (ow hw 5 rfl)) (mvT hZ27 (ow hw 6 rfl)) (by decide) (backOfSH (s := s) (vm0 := T27.vm) (W := 2) (own_text l Z a0 hw [] i3 zCOMPACT_STRINGS T27.heap n0 O_K27 B0 B1) hZ27 (ow hw 6 rfl) (ow hw 5 rfl) (by decide) (by decide) (own_EW hw) C_K27.1) (g := (mkF m 57 #[iv i0, iv i1, iv i2, iv i3, iv i4, iv i1, iv i3, rv b3, un, un, un] [(.int i3), (.ref b27_0), (.ref b3)])) rfl (by rw [hml]; rfl) (argsL := [(.int i3)]) (rest := [(.ref b27_0), (.ref b3)]) (lenOf pd__I_Ljava_lang_String_ rfl) rfl wf (hb hby at_57) (fun _ _ => ⟨rfl, rfl, (by decide : 19 + 6 ≤ _), (by decide : 41 + 12 ≤ _)⟩))
  obtain ⟨Y30, hS30, hZ30, hown30⟩ := rebS (s := s) (vm0 := T27.vm) hS27 (Nat.le_refl _) X30 hSq30 hg30 hZ27 hown27
  obtain ⟨b30_0, b30_1, k30_0, rfl, N30q, K30, lo30_1, f30_2, f30_3, f30_4, f30_5⟩ := hQ30
  have N30 := Fr.app N27 N30q
  have O_K30 : Old Z n0 T30.heap := O_K27.keep K30 all0
  have Kp_K30 : Keep h0 T30.heap [] := Kp_K27.trans K30 all0
  have c_K30 := Cq30
  have C_K30 := C_K27.trans c_K30
  have f31 := (f28.keep K30)
  have ne32 := Exa.neArv f31 f30_5 (ow hw 1 rfl)
  have f33 := (f27_2.keep K30)
  have ne34 := Exa.neArv f33 f30_5 (ow hw 11 rfl)
  have f35 := ((f24_1.keep K27 nin0).keep K30 nin0)
  have f36 := (((f9.keep K24).keep K27).keep K30)
  have ne37 : b3 ≠ b5_0 := Nat.ne_of_lt (Nat.lt_of_lt_of_le A3.lt lo5_1)
  have f38 := ((((f5_3.keep K8 nin0).keep K24 (ninS (Ne.symm ne37) nin0)).keep K27 nin0).keep K30 nin0)
  have f39 := ((((f5_4.keep K8 nin0).keep K24 (ninS (Ne.symm ne37) nin0)).keep K27 nin0).keep K30 nin0)
  have f40 := ((((f5_5.keep K8 nin0).keep K24 (ninS (Ne.symm ne7) nin0)).keep K27 nin0).keep K30 nin0)
  have f41 := (f27_3.keep K30 nin0)
  have f42 := (f27_4.keep K30 nin0)
  have f43 := (f27_5.keep K30 nin0)
  have f46 := ((f24_3.keep K27 nin0).keep K30 nin0)
  have f47 := (((f8_2.keep K24).keep K27).keep K30)
  have ne48 : b3 ≠ b8_0 := Nat.ne_of_lt (Nat.lt_of_lt_of_le (A3.keep K5).lt lo8_1)
  have f49 := (((f8_3.keep K24 (ninS (Ne.symm ne48) nin0)).keep K27 nin0).keep K30 nin0)
  have f50 := (((f8_4.keep K24 (ninS (Ne.symm ne48) nin0)).keep K27 nin0).keep K30 nin0)
  have f51 := (((f8_5.keep K24 (ninS (Ne.symm ne12) nin0)).keep K27 nin0).keep K30 nin0)
  obtain ⟨cq53, kq53, q53a, q53b, q53c⟩ := isOf hZ30 rfl f31
  obtain ⟨T53, Lc53, _, X53, hSq53, hg53, Cq53, hQ53, st53⟩ := flH Y30 (Y30.virtualBackS hx (y := y15) (z := y15) hown30 (mvT hZ30 (ow hw 82 rfl)) (mvT hZ30 (ow hw 83 rfl)) (notFace_of_selects (args := #[]) (mvT hZ30 (ow hw 85 rfl))) (mvT hZ30 (ow hw 85 rfl)) (mvT hZ30 (ow hw 84 rfl)) (by decide) (backOfSH (s := s) (vm0 := T30.vm) (W := 0) (r15_3 l Z a0 hw [] b3 b27_0 b30_0 b5_0 b5_1 k5_0 (own_tl i0) b27_1 k27_0 (own_tl i1) zCOMPACT_STRINGS b30_1 b8_0 b8_1 k8_0 (own_tl i2) k30_0 (own_tl i3) T30.heap n0 O_K30 f35 f36 f38 f39 f40 (own_gt _) f33 f41 f42 f43 (own_gt _) B0 B1 hc44 f30_4 hc45 f46 f47 f49 f50 f51 (own_gt _) f30_2 f30_3 f30_5 (own_gt _) hc52) hZ30 (ow hw 86 rfl) (ow hw 2 rfl) (by decide) (by decide) (own_EW hw) C_K30.1) q53a q53c (g := (mkF m 60 #[iv i0, iv i1, iv i2, iv i3, iv i4, iv i1, iv i3, rv b3, un, un, un] [(.ref b30_0), (.ref b27_0), (.ref b3)])) rfl (by rw [hml]; rfl) (Steps.refl _) (argsL := [(.ref b27_0), (.ref b30_0)]) (rest := []) (lenOf pd__Ljava_lang_String_Ljava_lang_String__Z rfl) rfl wf (hb hby at_60) (fun _ _ => ⟨rfl, rfl, (by decide : 25 + 2 ≤ _), (by decide : 53 + 4 ≤ _)⟩))
  obtain ⟨Y53, hS53, hZ53, hown53⟩ := rebS (s := s) (vm0 := T30.vm) hS30 (Nat.le_refl _) X53 hSq53 hg53 hZ30 hown30
  obtain ⟨rfl, N53q, K53⟩ := hQ53
  have N53 := Fr.app N30 N53q
  have O_K53 : Old Z n0 T53.heap := O_K30.keep K53 all0
  have Kp_K53 : Keep h0 T53.heap [] := Kp_K30.trans K53 all0
  have c_K53 := Cq53
  have C_K53 := C_K30.trans c_K53
  obtain ⟨T54, Lc54, _, X54, hQ54, st54⟩ := flC Y53 (Jvm.LawKit.callS Y53 hx (y := y17) hown53 (mvT hZ53 (ow hw 95 rfl)) (mvT hZ53 (ow hw 96 rfl)) (mvT hZ53 (ow hw 5 rfl)) (mvT hZ53 (ow hw 97 rfl)) (by decide) (backOf (W := 0) (own_same l Z a0 hw [] i0 i1 T53.heap n0 O_K53) hZ53 (ow hw 97 rfl) (ow hw 5 rfl) (by decide) (by decide)) (g := (mkF m 68 #[iv i0, iv i1, iv i2, iv i3, iv i4, iv i1, iv i3, rv b3, iv (1 : Int32), un, un] [(.int i1), (.int i0)])) rfl (by rw [hml]; rfl) (argsL := [(.int i0), (.int i1)]) (rest := []) (lenOf pd__II_Z rfl) rfl wf (hb hby at_68) (fun _ _ => ⟨rfl, rfl, (by decide : 27 + 0 ≤ _), (by decide : 57 + 0 ≤ _)⟩))
  obtain ⟨rfl, N54q, e54⟩ := hQ54
  have N54 := Fr.app N53 N54q
  obtain ⟨T55, Lc55, _, X55, hQ55, st55⟩ := flC X54 (Jvm.LawKit.callS X54 hx (y := y1) hown53 (mvT hZ53 (ow hw 7 rfl)) (mvT hZ53 (ow hw 8 rfl)) (mvT hZ53 (ow hw 5 rfl)) (mvT hZ53 (ow hw 9 rfl)) (by decide) (backOf (W := 0) (r1_1 l Z a0 hw [] i0 T53.heap n0 O_K53) hZ53 (ow hw 9 rfl) (ow hw 5 rfl) (by decide) (by decide)) (g := (mkF m 75 #[iv i0, iv i1, iv i2, iv i3, iv i4, iv i1, iv i3, rv b3, iv (1 : Int32), un, un] [(.int i0)])) rfl (by rw [hml]; rfl) (argsL := [(.int i0)]) (rest := []) (lenOf pd__I_I rfl) rfl wf (hb hby at_75) (fun _ _ => ⟨rfl, e54, (by decide : 27 + 0 ≤ _), (by decide : 57 + 0 ≤ _)⟩))
  obtain ⟨rfl, N55q, e55⟩ := hQ55
  have N55 := Fr.app N54 N55q
  obtain ⟨T57, Lc57, _, X57, hQ57, st57⟩ := flC X55 (Jvm.LawKit.callS X55 hx (y := y17) hown53 (mvT hZ53 (ow hw 95 rfl)) (mvT hZ53 (ow hw 96 rfl)) (mvT hZ53 (ow hw 5 rfl)) (mvT hZ53 (ow hw 97 rfl)) (by decide) (backOf (W := 0) (own_same l Z a0 hw [] i2 i3 T53.heap n0 O_K53) hZ53 (ow hw 97 rfl) (ow hw 5 rfl) (by decide) (by decide)) (g := (mkF m 96 #[iv i0, iv i1, iv i2, iv i3, iv i4, iv i1, iv i3, rv b3, iv (1 : Int32), iv (1 : Int32), un] [(.int i3), (.int i2)])) rfl (by rw [hml]; rfl) (argsL := [(.int i2), (.int i3)]) (rest := []) (lenOf pd__II_Z rfl) rfl wf (hb hby at_96) (fun _ _ => ⟨rfl, e55, (by decide : 27 + 0 ≤ _), (by decide : 57 + 0 ≤ _)⟩))
  obtain ⟨rfl, N57q, e57⟩ := hQ57
  have N57 := Fr.app N55 N57q
  refine finH (Q := lawQ n0) (rm := room_1) (vm := T53.vm) Bd X57 hZ53 (own_EW hw) C_K53 hh e57 hS53 (Nat.le_refl _) (some (.int (1 : Int32))) nofun ⟨rfl, N57⟩ (by decide) (by decide) fun fs hr => ?_
  show St p e below s₁ m 0 #[iv i0, iv i1, iv i2, iv i3, iv i4, un, un, un, un, un, un] [] _
  refine XS.iload X0.here hx rfl (hb hby at_0) rfl ?_
  refine XS.iconst X0.here hx rfl (hb hby at_2) ?_
  refine XS.iand X0.here hx rfl (hb hby at_3) rfl ?_
  refine XS.ifYes X0.here hx rfl (pc0 := 4) (pc' := 11) rfl (hb hby at_4) rfl ((if0 _ _).trans (teq hc1).1) (by decide) (by decide) ?_
  refine XS.iloadN X0.here hx rfl (hb hby at_11) rfl ?_
  refine XS.istore X0.here hx rfl (hb hby at_12) rfl (l' := #[iv i0, iv i1, iv i2, iv i3, iv i4, iv i1, un, un, un, un, un]) rfl ?_
  refine XS.iload X0.here hx rfl (hb hby at_14) rfl ?_
  refine XS.iconst X0.here hx rfl (hb hby at_16) ?_
  refine XS.iand X0.here hx rfl (hb hby at_17) rfl ?_
  refine XS.ifYes X0.here hx rfl (pc0 := 18) (pc' := 25) rfl (hb hby at_18) rfl ((if0 _ _).trans (teq hc2).1) (by decide) (by decide) ?_
  refine XS.iloadN X0.here hx rfl (hb hby at_25) rfl ?_
  refine XS.istore X0.here hx rfl (hb hby at_26) rfl (l' := #[iv i0, iv i1, iv i2, iv i3, iv i4, iv i1, iv i3, un, un, un, un]) rfl ?_
  refine st3 _ ?_
  refine XS.dup X3.here hx rfl (hb hby at_31) rfl rfl ?_
  refine XS.iloadN X3.here hx rfl (hb hby at_32) rfl ?_
  refine st5.trans ?_
  refine XS.iloadN Y5.here hx rfl (hb hby at_36) rfl ?_
  refine st8.trans ?_
  refine XS.aconstNull Y8.here hx rfl (hb hby at_40) ?_
  refine XS.aconstNull Y8.here hx rfl (hb hby at_41) ?_
  refine XS.aconstNull Y8.here hx rfl (hb hby at_42) ?_
  refine st24.trans ?_
  refine XS.astore X24.here hx rfl (hb hby at_46) rfl rfl (l' := #[iv i0, iv i1, iv i2, iv i3, iv i4, iv i1, iv i3, rv b3, un, un, un]) rfl ?_
  refine XS.aload X24.here hx rfl (hb hby at_48) rfl rfl ?_
  refine XS.iload X24.here hx rfl (hb hby at_50) rfl ?_
  show St p e below T24 m 52 #[iv i0, iv i1, iv i2, iv i3, iv i4, iv i1, iv i3, rv b3, un, un, un] [(.int i1), (.ref b3)] _
  refine st27.trans ?_
  refine XS.iload Y27.here hx rfl (hb hby at_55) rfl ?_
  refine st30.trans ?_
  refine st53.trans ?_
  refine XS.istore Y53.here hx rfl (hb hby at_63) rfl (l' := #[iv i0, iv i1, iv i2, iv i3, iv i4, iv i1, iv i3, rv b3, iv (1 : Int32), un, un]) rfl ?_
  refine XS.iloadN Y53.here hx rfl (hb hby at_65) rfl ?_
  refine XS.iload Y53.here hx rfl (hb hby at_66) rfl ?_
  refine st54 _ ?_
  refine XS.ifNo X54.here hx rfl (hb hby at_71) rfl ((if0 _ _).trans (teq hc44).2) ?_
  refine XS.iloadN X54.here hx rfl (hb hby at_74) rfl ?_
  refine st55 _ ?_
  refine XS.ifNo X55.here hx rfl (hb hby at_78) rfl ((if0 _ _).trans (teq hc56).2) ?_
  refine XS.iconst X55.here hx rfl (hb hby at_81) ?_
  refine XS.goto X55.here hx rfl (pc0 := 82) (pc' := 86) rfl (hb hby at_82) (by decide) (by decide) ?_
  refine XS.istore X55.here hx rfl (hb hby at_86) rfl (l' := #[iv i0, iv i1, iv i2, iv i3, iv i4, iv i1, iv i3, rv b3, iv (1 : Int32), iv (1 : Int32), un]) rfl ?_
  refine XS.iload X55.here hx rfl (hb hby at_88) rfl ?_
  refine XS.ifNo X55.here hx rfl (hb hby at_90) rfl ((if0 _ _).trans (feq (by decide : ¬ ((1 : Int32) = (0 : Int32)))).1) ?_
  refine XS.iloadN X55.here hx rfl (hb hby at_93) rfl ?_
  refine XS.iload X55.here hx rfl (hb hby at_94) rfl ?_
  refine st57 _ ?_
  refine XS.ifNo X57.here hx rfl (hb hby at_99) rfl ((if0 _ _).trans (feq hc52).1) ?_
  refine XS.iconst X57.here hx rfl (hb hby at_102) ?_
  refine XS.goto X57.here hx rfl (pc0 := 103) (pc' := 107) rfl (hb hby at_103) (by decide) (by decide) ?_
  refine XS.istore X57.here hx rfl (hb hby at_107) rfl (l' := #[iv i0, iv i1, iv i2, iv i3, iv i4, iv i1, iv i3, rv b3, iv (1 : Int32), iv (1 : Int32), iv (1 : Int32)]) rfl ?_
  refine XS.iload X57.here hx rfl (hb hby at_109) rfl ?_
  show St p e below T57 m 111 #[iv i0, iv i1, iv i2, iv i3, iv i4, iv i1, iv i3, rv b3, iv (1 : Int32), iv (1 : Int32), iv (1 : Int32)] [(.int (1 : Int32))] _
  refine XS.iload X57.here hx rfl (hb hby at_111) rfl ?_
  refine XS.icmpNo X57.here hx rfl (hb hby at_113) rfl (teq (rfl : (1 : Int32) = (1 : Int32))).2 ?_
  refine XS.iconst X57.here hx rfl (hb hby at_116) ?_
  refine XS.goto X57.here hx rfl (pc0 := 117) (pc' := 121) rfl (hb hby at_117) (by decide) (by decide) ?_
  exact retN X57 hx (t := .boolean) Bd.returns (by simp) (hb hby at_121) hr
def r15_4Q (Z : State) (a1 : Addr) (a2 : Addr) (a3 : Addr) (a4 : Addr) (a9 : Addr) (k11 : ClassId) (c12 : List Int32) (a17 : Addr) (k19 : ClassId) (c20 : List Int32) (p23 : Int32) (a30 : Addr) (a38 : Addr) (a46 : Addr) (k49 : ClassId) (c50 : List Int32) (k59 : ClassId) (c60 : List Int32) (h0 : Heap) (n0 : Nat) (v : Option Value) (h : Heap) (L : List Loc) : Prop := v = some (.int (0 : Int32)) ∧ Fr n0 L ∧ Keep h0 h []
set_option maxRecDepth 65536 in
set_option maxHeartbeats 40000000 in
theorem r15_4 (l : Launch) (Z : State) (a0 : Array Value) (hw : HW a0 Z) (ws : List Jvm.Cond) (a1 : Addr) (a2 : Addr) (a3 : Addr) (a4 : Addr) (a9 : Addr) (k11 : ClassId) (c12 : List Int32) (a17 : Addr) (k19 : ClassId) (c20 : List Int32) (p23 : Int32) (a30 : Addr) (a38 : Addr) (a46 : Addr) (k49 : ClassId) (c50 : List Int32) (k59 : ClassId) (c60 : List Int32) (h0 : Heap) (n0 : Nat) (O0 : Old Z n0 h0) (H5 : xF5 Z h0 a1 (.ref a4)) (H7 : xE1 Z h0 a4) (H8 : xF2 Z h0 a4 (.int (0 : Int32))) (H10 : xF0 Z h0 a4 (.ref a9)) (H13 : Arv Z h0 a9 k11 .byte (own_tn c12) (own_tb c12) (.int (0 : Int32))) (H14 : own_GT c12) (H15 : xE1 Z h0 a2) (H16 : xF2 Z h0 a2 (.int (0 : Int32))) (H18 : xF0 Z h0 a2 (.ref a17)) (H21 : Arv Z h0 a17 k19 .byte (own_tn c20) (own_tb c20) (.int (0 : Int32))) (H22 : own_GT c20) (H24 : Sta Z Z.heap "java/lang/String" "COMPACT_STRINGS" "Z" (.int p23)) (hc25 : ¬ (p23 = (0 : Int32))) (hc27 : (own_eqc c12 c20) = (0 : Int32)) (H31 : xF0 Z h0 a3 (.ref a30)) (hc37 : ¬ ((own_eqc c12 []) = (0 : Int32))) (H39 : xF7 Z h0 a1 (.ref a38)) (H42 : xE1 Z h0 a38) (H44 : xF2 Z h0 a38 (.int (0 : Int32))) (H47 : xF0 Z h0 a38 (.ref a46)) (H51 : Arv Z h0 a46 k49 .byte (own_tn c50) (own_tb c50) (.int (0 : Int32))) (H53 : own_GT c50) (H54 : xE1 Z h0 a3) (H56 : xF2 Z h0 a3 (.int (0 : Int32))) (H61 : Arv Z h0 a30 k59 .byte (own_tn c60) (own_tb c60) (.int (0 : Int32))) (H63 : own_GT c60) (hc65 : (own_eqc c50 c60) = (0 : Int32)) :
    MFH l y15 prog_22_method_3_code 4 (some .boolean) ws ({ frames := 2, cells := 2, slots := 4, locals := 28 } : Room) Z #[(.ref a1), (.ref a2), (.ref a3)] h0 (r15_4Q Z a1 a2 a3 a4 a9 k11 c12 a17 k19 c20 p23 a30 a38 a46 k49 c50 k59 c60 h0 n0) := by
  refine own_inH (plainFor_of_name pn_com_example_agave_agave_store_RequestStore_StoredRequest) #[rv a1, rv a2, rv a3, un] (fun _ => by first | (simp [entryFrame, mkF, argsToLocals, Value.category]; done) | rfl) ?_
  intro p e s m below meth c s₁ Bd hx hby hml hown hnm hZ hh C0 e0 X0
  have N0 := Fr.nil n0
  obtain ⟨T6, X6, e6, st6⟩ := gF X0 hx hZ hown (ow hw 58 rfl) e0 H5 (g := (mkF m 1 #[rv a1, rv a2, rv a3, un] [(.ref a1)])) rfl rfl (hb hby d15_1)
  obtain ⟨cq26, kq26, q26a, q26b, q26c⟩ := isOf hZ e6 H7
  obtain ⟨T26, Lc26, _, X26, hQ26, st26⟩ := fl X6 (X6.virtualBack hx (y := y16) (z := y16) hown (mvT hZ (ow hw 87 rfl)) (mvT hZ (ow hw 88 rfl)) (notFace_of_selects (args := #[]) (mvT hZ (ow hw 90 rfl))) (mvT hZ (ow hw 90 rfl)) (mvT hZ (ow hw 89 rfl)) (by decide) (own_eqB (W := 0) n0 hZ hw (ow hw 11 rfl) H7 H10 H8 H13 H14 H15 H18 H16 H21 H22 (H24.ext O0.2) hc25 (by decide) (by decide)) q26a q26c (g := (mkF m 5 #[rv a1, rv a2, rv a3, un] [(.ref a2), (.ref a4)])) rfl (by rw [hml]; rfl) (Steps.refl _) (argsL := [(.ref a2)]) (rest := []) (lenOf pd__Ljava_lang_Object__Z rfl) rfl wf (hb hby d15_5) (fun _ _ => ⟨rfl, e6, (by decide : 0 + 0 ≤ _), (by decide : 0 + 0 ≤ _)⟩))
  obtain ⟨rfl, N26q, e26⟩ := hQ26
  have N26 := Fr.app N0 N26q
  obtain ⟨T28, X28, e28, st28⟩ := gF X26 hx hZ hown (ow hw 58 rfl) e26 H5 (g := (mkF m 12 #[rv a1, rv a2, rv a3, un] [(.ref a1)])) rfl rfl (hb hby d15_12)
  obtain ⟨a29, T29, h29, kk29, b29, k29, X29, e29, E29, hS29, hk29, hZ29, hown29, Ea29, Fc29, Fv29, Ab29, -, -, Cq29, -, hne29, st29⟩ := ldcCH (s := s) (vm0 := s.vm) X28 hx hZ (own := "com/example/agave/agave/store/RequestStore$StoredRequest") hown (ow hw 98 rfl) (fun d hd => hw d (strW d hd)) e28 (State.WarmedH.since (State.WarmedH.refl s) 0) (Nat.zero_le _) (own_EW hw) (List.mem_of_getElem? (i := 0) rfl) C0.1 (vs := []) (z := 0) own_lit0 (by decide) rfl (g := (mkF m 15 #[rv a1, rv a2, rv a3, un] [(.ref a4)])) rfl (hb hby d15_15) (n := 0) (by decide) (by decide) (by decide) (by decide)
  have O_E29 : Old Z n0 h29 := O0.ext E29
  have Kp_E29 : Keep h0 h29 [] := (Keep.refl h0 []).ext E29
  have c_E29 := Cq29
  have C_E29 := C0.trans c_E29
  have Av29 : Arv Z h29 b29 k29 .byte (own_tn []) (own_tb []) (.int (0 : Int32)) := Ab29
  have f32 := (H7.ext E29)
  have f33 := (H8.ext E29)
  have f34 := (H10.ext E29)
  have f35 := (H13.ext E29)
  obtain ⟨cq36, kq36, q36a, q36b, q36c⟩ := isOf hZ29 e29 f32
  obtain ⟨T36, Lc36, _, X36, hQ36, st36⟩ := fl X29 (X29.virtualBack hx (y := y16) (z := y16) hown29 (mvT hZ29 (ow hw 87 rfl)) (mvT hZ29 (ow hw 88 rfl)) (notFace_of_selects (args := #[]) (mvT hZ29 (ow hw 90 rfl))) (mvT hZ29 (ow hw 90 rfl)) (mvT hZ29 (ow hw 89 rfl)) (by decide) (own_eqB (W := 0) n0 hZ29 hw (ow hw 11 rfl) f32 f34 f33 f35 H14 Ea29 Fv29 Fc29 Av29 own_gt0 (H24.ext O_E29.2) hc25 (by decide) (by decide)) q36a q36c (g := (mkF m 17 #[rv a1, rv a2, rv a3, un] [(.ref a29), (.ref a4)])) rfl (by rw [hml]; rfl) (Steps.refl _) (argsL := [(.ref a29)]) (rest := []) (lenOf pd__Ljava_lang_Object__Z rfl) rfl wf (hb hby d15_17) (fun _ _ => ⟨rfl, e29, (by decide : 2 + 0 ≤ _), (by decide : 4 + 0 ≤ _)⟩))
  obtain ⟨rfl, N36q, e36⟩ := hQ36
  have N36 := Fr.app N26 N36q
  have f40 := (H39.ext E29)
  obtain ⟨T41, X41, e41, st41⟩ := gF X36 hx hZ29 hown29 (ow hw 60 rfl) e36 f40 (g := (mkF m 34 #[rv a1, rv a2, rv a3, iv (1 : Int32)] [(.ref a1)])) rfl rfl (hb hby d15_34)
  have f43 := (H42.ext E29)
  have f45 := (H44.ext E29)
  have f48 := (H47.ext E29)
  have f52 := (H51.ext E29)
  have f55 := (H54.ext E29)
  have f57 := (H56.ext E29)
  have f58 := (H31.ext E29)
  have f62 := (H61.ext E29)
  obtain ⟨cq64, kq64, q64a, q64b, q64c⟩ := isOf hZ29 e41 f43
  obtain ⟨T64, Lc64, _, X64, hQ64, st64⟩ := fl X41 (X41.virtualBack hx (y := y16) (z := y16) hown29 (mvT hZ29 (ow hw 87 rfl)) (mvT hZ29 (ow hw 88 rfl)) (notFace_of_selects (args := #[]) (mvT hZ29 (ow hw 90 rfl))) (mvT hZ29 (ow hw 90 rfl)) (mvT hZ29 (ow hw 89 rfl)) (by decide) (own_eqB (W := 0) n0 hZ29 hw (ow hw 11 rfl) f43 f48 f45 f52 H53 f55 f58 f57 f62 H63 (H24.ext O_E29.2) hc25 (by decide) (by decide)) q64a q64c (g := (mkF m 38 #[rv a1, rv a2, rv a3, iv (1 : Int32)] [(.ref a3), (.ref a38)])) rfl (by rw [hml]; rfl) (Steps.refl _) (argsL := [(.ref a3)]) (rest := []) (lenOf pd__Ljava_lang_Object__Z rfl) rfl wf (hb hby d15_38) (fun _ _ => ⟨rfl, e41, (by decide : 2 + 0 ≤ _), (by decide : 4 + 0 ≤ _)⟩))
  obtain ⟨rfl, N64q, e64⟩ := hQ64
  have N64 := Fr.app N36 N64q
  refine finH (Q := r15_4Q Z a1 a2 a3 a4 a9 k11 c12 a17 k19 c20 p23 a30 a38 a46 k49 c50 k59 c60 h0 n0) (rm := ({ frames := 2, cells := 2, slots := 4, locals := 28 } : Room)) (vm := T29.vm) Bd X64 hZ29 (own_EW hw) C_E29 hh e64 hS29 hk29 (some (.int (0 : Int32))) nofun ⟨rfl, N64, Kp_E29⟩ (by decide) (by decide) fun fs hr => ?_
  show St p e below s₁ m 0 #[rv a1, rv a2, rv a3, un] [] _
  refine XS.aloadN X0.here hx rfl (hb hby d15_0) rfl rfl ?_
  refine st6 _ ?_
  refine XS.aloadN X6.here hx rfl (hb hby d15_4) rfl rfl ?_
  refine st26.trans ?_
  refine XS.ifNo X26.here hx rfl (hb hby d15_8) rfl ((if0 _ _).trans (teq hc27).2) ?_
  refine XS.aloadN X26.here hx rfl (hb hby d15_11) rfl rfl ?_
  refine st28 _ ?_
  refine st29 _ ?_
  refine st36.trans ?_
  refine XS.ifNo X36.here hx rfl (hb hby d15_20) rfl ((if0 _ _).trans (feq hc37).1) ?_
  refine XS.iconst X36.here hx rfl (hb hby d15_23) ?_
  refine XS.goto X36.here hx rfl (pc0 := 24) (pc' := 28) rfl (hb hby d15_24) (by decide) (by decide) ?_
  refine XS.istoreN X36.here hx rfl (hb hby d15_28) rfl (l' := #[rv a1, rv a2, rv a3, iv (1 : Int32)]) rfl ?_
  refine XS.iloadN X36.here hx rfl (hb hby d15_29) rfl ?_
  refine XS.ifNo X36.here hx rfl (hb hby d15_30) rfl ((if0 _ _).trans (feq (by decide : ¬ ((1 : Int32) = (0 : Int32)))).1) ?_
  refine XS.aloadN X36.here hx rfl (hb hby d15_33) rfl rfl ?_
  refine st41 _ ?_
  refine XS.aloadN X41.here hx rfl (hb hby d15_37) rfl rfl ?_
  refine st64.trans ?_
  refine XS.ifYes X64.here hx rfl (pc0 := 41) (pc' := 48) rfl (hb hby d15_41) rfl ((if0 _ _).trans (teq hc65).1) (by decide) (by decide) ?_
  refine XS.iconst X64.here hx rfl (hb hby d15_48) ?_
  exact retN X64 hx (t := .boolean) Bd.returns (by simp) (hb hby d15_49) hr
set_option maxRecDepth 65536 in
set_option maxHeartbeats 40000000 in
theorem law_9 (l : Launch) (Z : State) (a0 : Array Value) (hw : HW a0 Z) (ws : List Jvm.Cond) (zCOMPACT_STRINGS : Int32) (B : Base Z zCOMPACT_STRINGS) (i0 : Int32) (i1 : Int32) (i2 : Int32) (i3 : Int32) (i4 : Int32) (h0 : Heap) (n0 : Nat) (O0 : Old Z n0 h0) (hc1 : (i4 &&& (1 : Int32)) = (0 : Int32)) (hc2 : (i4 &&& (2 : Int32)) = (0 : Int32)) (hc44 : (own_eqc (own_tl i0) (own_tl i1)) = (0 : Int32)) (hc45 : ¬ ((own_eqc (own_tl i0) []) = (0 : Int32))) (hc52 : (own_eqc (own_tl i2) (own_tl i3)) = (0 : Int32)) (hc56 : ((i0 &&& (3 : Int32)) % (3 : Int32)) = (0 : Int32)) :
    MFH l x code maxLocals ret ws room_1 Z #[(.int i0), (.int i1), (.int i2), (.int i3), (.int i4)] h0 (lawQ n0) := by
  refine own_inH (plainFor_of_name pn_com_example_agave_agave_store_StoredRequestIsSameRequestPinLaw) #[iv i0, iv i1, iv i2, iv i3, iv i4, un, un, un, un, un, un] (fun _ => by first | (simp [entryFrame, mkF, argsToLocals, Value.category, maxLocals]; done) | rfl) ?_
  intro p e s m below meth c s₁ Bd hx hby hml hown hnm hZ hh C0 e0 X0
  have N0 := Fr.nil n0
  obtain ⟨B0, B1⟩ := B
  obtain ⟨T3, h3, X3, e3, E3, A3, D3, -, st3⟩ := newO X0 hx hZ hown (ow hw 0 rfl) (ow hw 1 rfl) (ow hw 2 rfl) e0 (g := (mkF m 28 #[iv i0, iv i1, iv i2, iv i3, iv i4, iv i1, iv i3, un, un, un, un] [])) rfl (hb hby at_28) (by decide) (by decide)
  obtain ⟨b3, g3⟩ : ∃ z, z = h0.size := ⟨_, rfl⟩
  rw [← g3] at A3 D3 st3
  have O_E3 : Old Z n0 h3 := O0.ext E3
  have Kp_E3 : Keep h0 h3 [] := (Keep.refl h0 []).ext E3
  have c_E3 := CHr.ext E3 C0.1
  have C_E3 := C0.trans c_E3
  obtain ⟨T5, Lc5, _, X5, hSq5, hg5, Cq5, hQ5, st5⟩ := flH X3 (Jvm.RoadKit.callSS X3 hx (y := y0) hown (mvT hZ (ow hw 3 rfl)) (mvT hZ (ow hw 4 rfl)) (mvT hZ (ow hw 5 rfl)) (mvT hZ (ow hw 6 rfl)) (by decide) (backOfSH (s := s) (vm0 := s.vm) (W := 2) (own_text l Z a0 hw [] i0 zCOMPACT_STRINGS h3 n0 O_E3 B0 B1) hZ (ow hw 6 rfl) (ow hw 5 rfl) (by decide) (by decide) (own_EW hw) C_E3.1) (g := (mkF m 33 #[iv i0, iv i1, iv i2, iv i3, iv i4, iv i1, iv i3, un, un, un, un] [(.int i0), (.ref b3), (.ref b3)])) rfl (by rw [hml]; rfl) (argsL := [(.int i0)]) (rest := [(.ref b3), (.ref b3)]) (lenOf pd__I_Ljava_lang_String_ rfl) rfl wf (hb hby at_33) (fun _ _ => ⟨rfl, e3, (by decide : 1 + 6 ≤ _), (by decide : 5 + 12 ≤ _)⟩))
  obtain ⟨Y5, hS5, hZ5, hown5⟩ := rebS (s := s) (vm0 := s.vm) (State.WarmedH.since (State.WarmedH.refl s) 0) (by rw [e3]; exact (Nat.zero_le _)) X5 hSq5 hg5 hZ hown
  obtain ⟨b5_0, b5_1, k5_0, rfl, N5q, K5, lo5_1, f5_2, f5_3, f5_4, f5_5⟩ := hQ5
  have N5 := Fr.app N0 N5q
  have O_K5 : Old Z n0 T5.heap := O_E3.keep K5 all0
  have Kp_K5 : Keep h0 T5.heap [] := Kp_E3.trans K5 all0
  have c_K5 := Cq5
  have C_K5 := C_E3.trans c_K5
  have f6 := (A3.keep K5)
  have ne7 := Exa.neArv f6 f5_5 (ow hw 1 rfl)
  obtain ⟨T8, Lc8, _, X8, hSq8, hg8, Cq8, hQ8, st8⟩ := flH Y5 (Jvm.RoadKit.callSS Y5 hx (y := y0) hown5 (mvT hZ5 (ow hw 3 rfl)) (mvT hZ5 (ow hw 4 rfl)) (mvT hZ5 (ow hw 5 rfl)) (mvT hZ5 (ow hw 6 rfl)) (by decide) (backOfSH (s := s) (vm0 := T5.vm) (W := 3) (own_text l Z a0 hw [] i2 zCOMPACT_STRINGS T5.heap n0 O_K5 B0 B1) hZ5 (ow hw 6 rfl) (ow hw 5 rfl) (by decide) (by decide) (own_EW hw) C_K5.1) (g := (mkF m 37 #[iv i0, iv i1, iv i2, iv i3, iv i4, iv i1, iv i3, un, un, un, un] [(.int i2), (.ref b5_0), (.ref b3), (.ref b3)])) rfl (by rw [hml]; rfl) (argsL := [(.int i2)]) (rest := [(.ref b5_0), (.ref b3), (.ref b3)]) (lenOf pd__I_Ljava_lang_String_ rfl) rfl wf (hb hby at_37) (fun _ _ => ⟨rfl, rfl, (by decide : 7 + 6 ≤ _), (by decide : 17 + 12 ≤ _)⟩))
  obtain ⟨Y8, hS8, hZ8, hown8⟩ := rebS (s := s) (vm0 := T5.vm) hS5 (Nat.le_refl _) X8 hSq8 hg8 hZ5 hown5
  obtain ⟨b8_0, b8_1, k8_0, rfl, N8q, K8, lo8_1, f8_2, f8_3, f8_4, f8_5⟩ := hQ8
  have N8 := Fr.app N5 N8q
  have O_K8 : Old Z n0 T8.heap := O_K5.keep K8 all0
  have Kp_K8 : Keep h0 T8.heap [] := Kp_K5.trans K8 all0
  have c_K8 := Cq8
  have C_K8 := C_K5.trans c_K8
  have f9 := (f5_2.keep K8)
  have ne10 := Exa.neArv f9 f8_5 (ow hw 11 rfl)
  have f11 := (f6.keep K8)
  have ne12 := Exa.neArv f11 f8_5 (ow hw 1 rfl)
  have f13 : xF5 Z h3 b3 .null := D3 (Or.inr (ow hw 59 rfl)) (ty := (.object "java/lang/String")) (by decide)
  have f14 := ((f13.keep K5 nin0).keep K8 nin0)
  have g15 : n0 ≤ b3 := Nat.le_trans (Nat.le_trans (Nat.le_of_eq O0.1.symm) O0.2.1) (Nat.le_of_eq g3.symm)
  have f16 : xF7 Z h3 b3 .null := D3 (Or.inr (ow hw 61 rfl)) (ty := (.object "java/lang/String")) (by decide)
  have f17 := ((f16.keep K5 nin0).keep K8 nin0)
  have f18 : xF8 Z h3 b3 .null := D3 (Or.inr (ow hw 63 rfl)) (ty := (.object "java/util/Optional")) (by decide)
  have f19 := ((f18.keep K5 nin0).keep K8 nin0)
  have f20 : xF9 Z h3 b3 .null := D3 (Or.inr (ow hw 65 rfl)) (ty := (.object "java/util/Optional")) (by decide)
  have f21 := ((f20.keep K5 nin0).keep K8 nin0)
  have f22 : xF10 Z h3 b3 .null := D3 (Or.inr (ow hw 67 rfl)) (ty := (.object "java/util/Optional")) (by decide)
  have f23 := ((f22.keep K5 nin0).keep K8 nin0)
  obtain ⟨T24, Lc24, _, X24, hQ24, st24⟩ := fl Y8 (Y8.specialBack hx (y := y13) rfl hown8 (mvT hZ8 (ow hw 49 rfl)) (mvT hZ8 (ow hw 50 rfl)) (mvT hZ8 (ow hw 51 rfl)) (by decide) (backOf (W := 1) (r13_1 l Z a0 hw [] b3 b5_0 b8_0 T8.heap n0 O_K8 f14 f11 g15 f17 f19 f21 f23) hZ8 (ow hw 51 rfl) (ow hw 2 rfl) (by decide) (by decide)) (g := (mkF m 43 #[iv i0, iv i1, iv i2, iv i3, iv i4, iv i1, iv i3, un, un, un, un] [.null, .null, .null, (.ref b8_0), (.ref b5_0), (.ref b3), (.ref b3)])) rfl (by rw [hml]; rfl) (Steps.refl _) (a := b3) (argsL := [(.ref b5_0), (.ref b8_0), .null, .null, .null]) (rest := [(.ref b3)]) (lenOf pd__Ljava_lang_String_Ljava_lang_String_Ljava_util_Optional_Ljava_util_Optional_Ljava_util_Optional__V rfl) rfl wf (hb hby at_43) (fun _ _ => ⟨rfl, rfl, (by decide : 13 + 0 ≤ _), (by decide : 29 + 0 ≤ _)⟩))
  obtain ⟨rfl, N24q, K24, f24_1, f24_2, f24_3, f24_4, f24_5, f24_6⟩ := hQ24
  have N24 := Fr.app N8 N24q
  have sf25 := (c_K8.safe (A3.keep K5).lt (c_K5.safe A3.lt (Safe.ext E3 C0.1 (Safe.new (Nat.le_of_eq g3.symm)))))
  have z26 : h0.size ≤ b3 := Nat.le_trans (Keep.refl h0 []).1 (Nat.le_of_eq g3.symm)
  have O_K24 : Old Z n0 T24.heap := O_K8.keep K24 (allS g15 all0)
  have Kp_K24 : Keep h0 T24.heap [] := Kp_K8.trans K24 (allS (Or.inr z26) all0)
  have c_K24 := CHr.keep K24 (allS sf25 all0) C_K8.1
  have C_K24 := C_K8.trans c_K24
  obtain ⟨T27, Lc27, _, X27, hSq27, hg27, Cq27, hQ27, st27⟩ := flH X24 (Jvm.RoadKit.callSS X24 hx (y := y0) hown8 (mvT hZ8 (ow hw 3 rfl)) (mvT hZ8 (ow hw 4 rfl)) (mvT hZ8 (ow hw 5 rfl)) (mvT hZ8 (ow hw 6 rfl)) (by decide) (backOfSH (s := s) (vm0 := T8.vm) (W := 1) (own_text l Z a0 hw [] i1 zCOMPACT_STRINGS T24.heap n0 O_K24 B0 B1) hZ8 (ow hw 6 rfl) (ow hw 5 rfl) (by decide) (by decide) (own_EW hw) C_K24.1) (g := (mkF m 52 #[iv i0, iv i1, iv i2, iv i3, iv i4, iv i1, iv i3, rv b3, un, un, un] [(.int i1), (.ref b3)])) rfl (by rw [hml]; rfl) (argsL := [(.int i1)]) (rest := [(.ref b3)]) (lenOf pd__I_Ljava_lang_String_ rfl) rfl wf (hb hby at_52) (fun _ _ => ⟨rfl, rfl, (by decide : 13 + 6 ≤ _), (by decide : 29 + 12 ≤ _)⟩))
  obtain ⟨Y27, hS27, hZ27, hown27⟩ := rebS (s := s) (vm0 := T8.vm) hS8 (Nat.le_trans (Nat.le_refl _) K24.1) X27 hSq27 hg27 hZ8 hown8
  obtain ⟨b27_0, b27_1, k27_0, rfl, N27q, K27, lo27_1, f27_2, f27_3, f27_4, f27_5⟩ := hQ27
  have N27 := Fr.app N24 N27q
  have O_K27 : Old Z n0 T27.heap := O_K24.keep K27 all0
  have Kp_K27 : Keep h0 T27.heap [] := Kp_K24.trans K27 all0
  have c_K27 := Cq27
  have C_K27 := C_K24.trans c_K27
  have f28 := (f24_2.keep K27)
  have ne29 := Exa.neArv f28 f27_5 (ow hw 1 rfl)
  obtain ⟨T30, Lc30, _, X30, hSq30, hg30, Cq30, hQ30, st30⟩ := flH Y27 (Jvm.RoadKit.callSS Y27 hx (y := y0) hown27 (mvT hZ27 (ow hw 3 rfl)) (mvT hZ27 (ow hw 4 rfl)) (mvT hZ27 (ow hw 5 rfl)) (mvT hZ27 (ow hw 6 rfl)) (by decide) (backOfSH (s := s) (vm0 := T27.vm) (W := 2) (own_text l Z a0 hw [] i3 zCOMPACT_STRINGS T27.heap n0 O_K27 B0 B1) hZ27 (ow hw 6 rfl) (ow hw 5 rfl) (by decide) (by decide) (own_EW hw) C_K27.1) (g := (mkF m 57 #[iv i0, iv i1, iv i2, iv i3, iv i4, iv i1, iv i3, rv b3, un, un, un] [(.int i3), (.ref b27_0), (.ref b3)])) rfl (by rw [hml]; rfl) (argsL := [(.int i3)]) (rest := [(.ref b27_0), (.ref b3)]) (lenOf pd__I_Ljava_lang_String_ rfl) rfl wf (hb hby at_57) (fun _ _ => ⟨rfl, rfl, (by decide : 19 + 6 ≤ _), (by decide : 41 + 12 ≤ _)⟩))
  obtain ⟨Y30, hS30, hZ30, hown30⟩ := rebS (s := s) (vm0 := T27.vm) hS27 (Nat.le_refl _) X30 hSq30 hg30 hZ27 hown27
  obtain ⟨b30_0, b30_1, k30_0, rfl, N30q, K30, lo30_1, f30_2, f30_3, f30_4, f30_5⟩ := hQ30
  have N30 := Fr.app N27 N30q
  have O_K30 : Old Z n0 T30.heap := O_K27.keep K30 all0
  have Kp_K30 : Keep h0 T30.heap [] := Kp_K27.trans K30 all0
  have c_K30 := Cq30
  have C_K30 := C_K27.trans c_K30
  have f31 := (f28.keep K30)
  have ne32 := Exa.neArv f31 f30_5 (ow hw 1 rfl)
  have f33 := (f27_2.keep K30)
  have ne34 := Exa.neArv f33 f30_5 (ow hw 11 rfl)
  have f35 := ((f24_1.keep K27 nin0).keep K30 nin0)
  have f36 := (((f9.keep K24).keep K27).keep K30)
  have ne37 : b3 ≠ b5_0 := Nat.ne_of_lt (Nat.lt_of_lt_of_le A3.lt lo5_1)
  have f38 := ((((f5_3.keep K8 nin0).keep K24 (ninS (Ne.symm ne37) nin0)).keep K27 nin0).keep K30 nin0)
  have f39 := ((((f5_4.keep K8 nin0).keep K24 (ninS (Ne.symm ne37) nin0)).keep K27 nin0).keep K30 nin0)
  have f40 := ((((f5_5.keep K8 nin0).keep K24 (ninS (Ne.symm ne7) nin0)).keep K27 nin0).keep K30 nin0)
  have f41 := (f27_3.keep K30 nin0)
  have f42 := (f27_4.keep K30 nin0)
  have f43 := (f27_5.keep K30 nin0)
  have f46 := ((f24_3.keep K27 nin0).keep K30 nin0)
  have f47 := (((f8_2.keep K24).keep K27).keep K30)
  have ne48 : b3 ≠ b8_0 := Nat.ne_of_lt (Nat.lt_of_lt_of_le (A3.keep K5).lt lo8_1)
  have f49 := (((f8_3.keep K24 (ninS (Ne.symm ne48) nin0)).keep K27 nin0).keep K30 nin0)
  have f50 := (((f8_4.keep K24 (ninS (Ne.symm ne48) nin0)).keep K27 nin0).keep K30 nin0)
  have f51 := (((f8_5.keep K24 (ninS (Ne.symm ne12) nin0)).keep K27 nin0).keep K30 nin0)
  obtain ⟨cq53, kq53, q53a, q53b, q53c⟩ := isOf hZ30 rfl f31
  obtain ⟨T53, Lc53, _, X53, hSq53, hg53, Cq53, hQ53, st53⟩ := flH Y30 (Y30.virtualBackS hx (y := y15) (z := y15) hown30 (mvT hZ30 (ow hw 82 rfl)) (mvT hZ30 (ow hw 83 rfl)) (notFace_of_selects (args := #[]) (mvT hZ30 (ow hw 85 rfl))) (mvT hZ30 (ow hw 85 rfl)) (mvT hZ30 (ow hw 84 rfl)) (by decide) (backOfSH (s := s) (vm0 := T30.vm) (W := 0) (r15_4 l Z a0 hw [] b3 b27_0 b30_0 b5_0 b5_1 k5_0 (own_tl i0) b27_1 k27_0 (own_tl i1) zCOMPACT_STRINGS b30_1 b8_0 b8_1 k8_0 (own_tl i2) k30_0 (own_tl i3) T30.heap n0 O_K30 f35 f36 f38 f39 f40 (own_gt _) f33 f41 f42 f43 (own_gt _) B0 B1 hc44 f30_4 hc45 f46 f47 f49 f50 f51 (own_gt _) f30_2 f30_3 f30_5 (own_gt _) hc52) hZ30 (ow hw 86 rfl) (ow hw 2 rfl) (by decide) (by decide) (own_EW hw) C_K30.1) q53a q53c (g := (mkF m 60 #[iv i0, iv i1, iv i2, iv i3, iv i4, iv i1, iv i3, rv b3, un, un, un] [(.ref b30_0), (.ref b27_0), (.ref b3)])) rfl (by rw [hml]; rfl) (Steps.refl _) (argsL := [(.ref b27_0), (.ref b30_0)]) (rest := []) (lenOf pd__Ljava_lang_String_Ljava_lang_String__Z rfl) rfl wf (hb hby at_60) (fun _ _ => ⟨rfl, rfl, (by decide : 25 + 2 ≤ _), (by decide : 53 + 4 ≤ _)⟩))
  obtain ⟨Y53, hS53, hZ53, hown53⟩ := rebS (s := s) (vm0 := T30.vm) hS30 (Nat.le_refl _) X53 hSq53 hg53 hZ30 hown30
  obtain ⟨rfl, N53q, K53⟩ := hQ53
  have N53 := Fr.app N30 N53q
  have O_K53 : Old Z n0 T53.heap := O_K30.keep K53 all0
  have Kp_K53 : Keep h0 T53.heap [] := Kp_K30.trans K53 all0
  have c_K53 := Cq53
  have C_K53 := C_K30.trans c_K53
  obtain ⟨T54, Lc54, _, X54, hQ54, st54⟩ := flC Y53 (Jvm.LawKit.callS Y53 hx (y := y17) hown53 (mvT hZ53 (ow hw 95 rfl)) (mvT hZ53 (ow hw 96 rfl)) (mvT hZ53 (ow hw 5 rfl)) (mvT hZ53 (ow hw 97 rfl)) (by decide) (backOf (W := 0) (own_same l Z a0 hw [] i0 i1 T53.heap n0 O_K53) hZ53 (ow hw 97 rfl) (ow hw 5 rfl) (by decide) (by decide)) (g := (mkF m 68 #[iv i0, iv i1, iv i2, iv i3, iv i4, iv i1, iv i3, rv b3, iv (0 : Int32), un, un] [(.int i1), (.int i0)])) rfl (by rw [hml]; rfl) (argsL := [(.int i0), (.int i1)]) (rest := []) (lenOf pd__II_Z rfl) rfl wf (hb hby at_68) (fun _ _ => ⟨rfl, rfl, (by decide : 27 + 0 ≤ _), (by decide : 57 + 0 ≤ _)⟩))
  obtain ⟨rfl, N54q, e54⟩ := hQ54
  have N54 := Fr.app N53 N54q
  obtain ⟨T55, Lc55, _, X55, hQ55, st55⟩ := flC X54 (Jvm.LawKit.callS X54 hx (y := y1) hown53 (mvT hZ53 (ow hw 7 rfl)) (mvT hZ53 (ow hw 8 rfl)) (mvT hZ53 (ow hw 5 rfl)) (mvT hZ53 (ow hw 9 rfl)) (by decide) (backOf (W := 0) (r1_1 l Z a0 hw [] i0 T53.heap n0 O_K53) hZ53 (ow hw 9 rfl) (ow hw 5 rfl) (by decide) (by decide)) (g := (mkF m 75 #[iv i0, iv i1, iv i2, iv i3, iv i4, iv i1, iv i3, rv b3, iv (0 : Int32), un, un] [(.int i0)])) rfl (by rw [hml]; rfl) (argsL := [(.int i0)]) (rest := []) (lenOf pd__I_I rfl) rfl wf (hb hby at_75) (fun _ _ => ⟨rfl, e54, (by decide : 27 + 0 ≤ _), (by decide : 57 + 0 ≤ _)⟩))
  obtain ⟨rfl, N55q, e55⟩ := hQ55
  have N55 := Fr.app N54 N55q
  obtain ⟨T57, Lc57, _, X57, hQ57, st57⟩ := flC X55 (Jvm.LawKit.callS X55 hx (y := y17) hown53 (mvT hZ53 (ow hw 95 rfl)) (mvT hZ53 (ow hw 96 rfl)) (mvT hZ53 (ow hw 5 rfl)) (mvT hZ53 (ow hw 97 rfl)) (by decide) (backOf (W := 0) (own_same l Z a0 hw [] i2 i3 T53.heap n0 O_K53) hZ53 (ow hw 97 rfl) (ow hw 5 rfl) (by decide) (by decide)) (g := (mkF m 96 #[iv i0, iv i1, iv i2, iv i3, iv i4, iv i1, iv i3, rv b3, iv (0 : Int32), iv (1 : Int32), un] [(.int i3), (.int i2)])) rfl (by rw [hml]; rfl) (argsL := [(.int i2), (.int i3)]) (rest := []) (lenOf pd__II_Z rfl) rfl wf (hb hby at_96) (fun _ _ => ⟨rfl, e55, (by decide : 27 + 0 ≤ _), (by decide : 57 + 0 ≤ _)⟩))
  obtain ⟨rfl, N57q, e57⟩ := hQ57
  have N57 := Fr.app N55 N57q
  refine finH (Q := lawQ n0) (rm := room_1) (vm := T53.vm) Bd X57 hZ53 (own_EW hw) C_K53 hh e57 hS53 (Nat.le_refl _) (some (.int (1 : Int32))) nofun ⟨rfl, N57⟩ (by decide) (by decide) fun fs hr => ?_
  show St p e below s₁ m 0 #[iv i0, iv i1, iv i2, iv i3, iv i4, un, un, un, un, un, un] [] _
  refine XS.iload X0.here hx rfl (hb hby at_0) rfl ?_
  refine XS.iconst X0.here hx rfl (hb hby at_2) ?_
  refine XS.iand X0.here hx rfl (hb hby at_3) rfl ?_
  refine XS.ifYes X0.here hx rfl (pc0 := 4) (pc' := 11) rfl (hb hby at_4) rfl ((if0 _ _).trans (teq hc1).1) (by decide) (by decide) ?_
  refine XS.iloadN X0.here hx rfl (hb hby at_11) rfl ?_
  refine XS.istore X0.here hx rfl (hb hby at_12) rfl (l' := #[iv i0, iv i1, iv i2, iv i3, iv i4, iv i1, un, un, un, un, un]) rfl ?_
  refine XS.iload X0.here hx rfl (hb hby at_14) rfl ?_
  refine XS.iconst X0.here hx rfl (hb hby at_16) ?_
  refine XS.iand X0.here hx rfl (hb hby at_17) rfl ?_
  refine XS.ifYes X0.here hx rfl (pc0 := 18) (pc' := 25) rfl (hb hby at_18) rfl ((if0 _ _).trans (teq hc2).1) (by decide) (by decide) ?_
  refine XS.iloadN X0.here hx rfl (hb hby at_25) rfl ?_
  refine XS.istore X0.here hx rfl (hb hby at_26) rfl (l' := #[iv i0, iv i1, iv i2, iv i3, iv i4, iv i1, iv i3, un, un, un, un]) rfl ?_
  refine st3 _ ?_
  refine XS.dup X3.here hx rfl (hb hby at_31) rfl rfl ?_
  refine XS.iloadN X3.here hx rfl (hb hby at_32) rfl ?_
  refine st5.trans ?_
  refine XS.iloadN Y5.here hx rfl (hb hby at_36) rfl ?_
  refine st8.trans ?_
  refine XS.aconstNull Y8.here hx rfl (hb hby at_40) ?_
  refine XS.aconstNull Y8.here hx rfl (hb hby at_41) ?_
  refine XS.aconstNull Y8.here hx rfl (hb hby at_42) ?_
  refine st24.trans ?_
  refine XS.astore X24.here hx rfl (hb hby at_46) rfl rfl (l' := #[iv i0, iv i1, iv i2, iv i3, iv i4, iv i1, iv i3, rv b3, un, un, un]) rfl ?_
  refine XS.aload X24.here hx rfl (hb hby at_48) rfl rfl ?_
  refine XS.iload X24.here hx rfl (hb hby at_50) rfl ?_
  show St p e below T24 m 52 #[iv i0, iv i1, iv i2, iv i3, iv i4, iv i1, iv i3, rv b3, un, un, un] [(.int i1), (.ref b3)] _
  refine st27.trans ?_
  refine XS.iload Y27.here hx rfl (hb hby at_55) rfl ?_
  refine st30.trans ?_
  refine st53.trans ?_
  refine XS.istore Y53.here hx rfl (hb hby at_63) rfl (l' := #[iv i0, iv i1, iv i2, iv i3, iv i4, iv i1, iv i3, rv b3, iv (0 : Int32), un, un]) rfl ?_
  refine XS.iloadN Y53.here hx rfl (hb hby at_65) rfl ?_
  refine XS.iload Y53.here hx rfl (hb hby at_66) rfl ?_
  refine st54 _ ?_
  refine XS.ifNo X54.here hx rfl (hb hby at_71) rfl ((if0 _ _).trans (teq hc44).2) ?_
  refine XS.iloadN X54.here hx rfl (hb hby at_74) rfl ?_
  refine st55 _ ?_
  refine XS.ifNo X55.here hx rfl (hb hby at_78) rfl ((if0 _ _).trans (teq hc56).2) ?_
  refine XS.iconst X55.here hx rfl (hb hby at_81) ?_
  refine XS.goto X55.here hx rfl (pc0 := 82) (pc' := 86) rfl (hb hby at_82) (by decide) (by decide) ?_
  refine XS.istore X55.here hx rfl (hb hby at_86) rfl (l' := #[iv i0, iv i1, iv i2, iv i3, iv i4, iv i1, iv i3, rv b3, iv (0 : Int32), iv (1 : Int32), un]) rfl ?_
  refine XS.iload X55.here hx rfl (hb hby at_88) rfl ?_
  refine XS.ifNo X55.here hx rfl (hb hby at_90) rfl ((if0 _ _).trans (feq (by decide : ¬ ((1 : Int32) = (0 : Int32)))).1) ?_
  refine XS.iloadN X55.here hx rfl (hb hby at_93) rfl ?_
  refine XS.iload X55.here hx rfl (hb hby at_94) rfl ?_
  refine st57 _ ?_
  refine XS.ifYes X57.here hx rfl (pc0 := 99) (pc' := 106) rfl (hb hby at_99) rfl ((if0 _ _).trans (teq hc52).1) (by decide) (by decide) ?_
  refine XS.iconst X57.here hx rfl (hb hby at_106) ?_
  refine XS.istore X57.here hx rfl (hb hby at_107) rfl (l' := #[iv i0, iv i1, iv i2, iv i3, iv i4, iv i1, iv i3, rv b3, iv (0 : Int32), iv (1 : Int32), iv (0 : Int32)]) rfl ?_
  refine XS.iload X57.here hx rfl (hb hby at_109) rfl ?_
  refine XS.iload X57.here hx rfl (hb hby at_111) rfl ?_
  show St p e below T57 m 113 #[iv i0, iv i1, iv i2, iv i3, iv i4, iv i1, iv i3, rv b3, iv (0 : Int32), iv (1 : Int32), iv (0 : Int32)] [(.int (0 : Int32)), (.int (0 : Int32))] _
  refine XS.icmpNo X57.here hx rfl (hb hby at_113) rfl (teq (rfl : (0 : Int32) = (0 : Int32))).2 ?_
  refine XS.iconst X57.here hx rfl (hb hby at_116) ?_
  refine XS.goto X57.here hx rfl (pc0 := 117) (pc' := 121) rfl (hb hby at_117) (by decide) (by decide) ?_
  exact retN X57 hx (t := .boolean) Bd.returns (by simp) (hb hby at_121) hr
theorem d15_27 : decode prog_22_method_3_code 27 = .ok (.iconst 0, 1) := by decide +kernel
def r15_5Q (Z : State) (a1 : Addr) (a2 : Addr) (a3 : Addr) (a4 : Addr) (a9 : Addr) (k11 : ClassId) (c12 : List Int32) (a17 : Addr) (k19 : ClassId) (c20 : List Int32) (p23 : Int32) (a30 : Addr) (h0 : Heap) (n0 : Nat) (v : Option Value) (h : Heap) (L : List Loc) : Prop := v = some (.int (0 : Int32)) ∧ Fr n0 L ∧ Keep h0 h []
set_option maxRecDepth 65536 in
set_option maxHeartbeats 40000000 in
theorem r15_5 (l : Launch) (Z : State) (a0 : Array Value) (hw : HW a0 Z) (ws : List Jvm.Cond) (a1 : Addr) (a2 : Addr) (a3 : Addr) (a4 : Addr) (a9 : Addr) (k11 : ClassId) (c12 : List Int32) (a17 : Addr) (k19 : ClassId) (c20 : List Int32) (p23 : Int32) (a30 : Addr) (h0 : Heap) (n0 : Nat) (O0 : Old Z n0 h0) (H5 : xF5 Z h0 a1 (.ref a4)) (H7 : xE1 Z h0 a4) (H8 : xF2 Z h0 a4 (.int (0 : Int32))) (H10 : xF0 Z h0 a4 (.ref a9)) (H13 : Arv Z h0 a9 k11 .byte (own_tn c12) (own_tb c12) (.int (0 : Int32))) (H14 : own_GT c12) (H15 : xE1 Z h0 a2) (H16 : xF2 Z h0 a2 (.int (0 : Int32))) (H18 : xF0 Z h0 a2 (.ref a17)) (H21 : Arv Z h0 a17 k19 .byte (own_tn c20) (own_tb c20) (.int (0 : Int32))) (H22 : own_GT c20) (H24 : Sta Z Z.heap "java/lang/String" "COMPACT_STRINGS" "Z" (.int p23)) (hc25 : ¬ (p23 = (0 : Int32))) (hc27 : (own_eqc c12 c20) = (0 : Int32)) (H31 : xF0 Z h0 a3 (.ref a30)) (hc37 : (own_eqc c12 []) = (0 : Int32)) :
    MFH l y15 prog_22_method_3_code 4 (some .boolean) ws ({ frames := 2, cells := 2, slots := 4, locals := 28 } : Room) Z #[(.ref a1), (.ref a2), (.ref a3)] h0 (r15_5Q Z a1 a2 a3 a4 a9 k11 c12 a17 k19 c20 p23 a30 h0 n0) := by
  refine own_inH (plainFor_of_name pn_com_example_agave_agave_store_RequestStore_StoredRequest) #[rv a1, rv a2, rv a3, un] (fun _ => by first | (simp [entryFrame, mkF, argsToLocals, Value.category]; done) | rfl) ?_
  intro p e s m below meth c s₁ Bd hx hby hml hown hnm hZ hh C0 e0 X0
  have N0 := Fr.nil n0
  obtain ⟨T6, X6, e6, st6⟩ := gF X0 hx hZ hown (ow hw 58 rfl) e0 H5 (g := (mkF m 1 #[rv a1, rv a2, rv a3, un] [(.ref a1)])) rfl rfl (hb hby d15_1)
  obtain ⟨cq26, kq26, q26a, q26b, q26c⟩ := isOf hZ e6 H7
  obtain ⟨T26, Lc26, _, X26, hQ26, st26⟩ := fl X6 (X6.virtualBack hx (y := y16) (z := y16) hown (mvT hZ (ow hw 87 rfl)) (mvT hZ (ow hw 88 rfl)) (notFace_of_selects (args := #[]) (mvT hZ (ow hw 90 rfl))) (mvT hZ (ow hw 90 rfl)) (mvT hZ (ow hw 89 rfl)) (by decide) (own_eqB (W := 0) n0 hZ hw (ow hw 11 rfl) H7 H10 H8 H13 H14 H15 H18 H16 H21 H22 (H24.ext O0.2) hc25 (by decide) (by decide)) q26a q26c (g := (mkF m 5 #[rv a1, rv a2, rv a3, un] [(.ref a2), (.ref a4)])) rfl (by rw [hml]; rfl) (Steps.refl _) (argsL := [(.ref a2)]) (rest := []) (lenOf pd__Ljava_lang_Object__Z rfl) rfl wf (hb hby d15_5) (fun _ _ => ⟨rfl, e6, (by decide : 0 + 0 ≤ _), (by decide : 0 + 0 ≤ _)⟩))
  obtain ⟨rfl, N26q, e26⟩ := hQ26
  have N26 := Fr.app N0 N26q
  obtain ⟨T28, X28, e28, st28⟩ := gF X26 hx hZ hown (ow hw 58 rfl) e26 H5 (g := (mkF m 12 #[rv a1, rv a2, rv a3, un] [(.ref a1)])) rfl rfl (hb hby d15_12)
  obtain ⟨a29, T29, h29, kk29, b29, k29, X29, e29, E29, hS29, hk29, hZ29, hown29, Ea29, Fc29, Fv29, Ab29, -, -, Cq29, -, hne29, st29⟩ := ldcCH (s := s) (vm0 := s.vm) X28 hx hZ (own := "com/example/agave/agave/store/RequestStore$StoredRequest") hown (ow hw 98 rfl) (fun d hd => hw d (strW d hd)) e28 (State.WarmedH.since (State.WarmedH.refl s) 0) (Nat.zero_le _) (own_EW hw) (List.mem_of_getElem? (i := 0) rfl) C0.1 (vs := []) (z := 0) own_lit0 (by decide) rfl (g := (mkF m 15 #[rv a1, rv a2, rv a3, un] [(.ref a4)])) rfl (hb hby d15_15) (n := 0) (by decide) (by decide) (by decide) (by decide)
  have O_E29 : Old Z n0 h29 := O0.ext E29
  have Kp_E29 : Keep h0 h29 [] := (Keep.refl h0 []).ext E29
  have c_E29 := Cq29
  have C_E29 := C0.trans c_E29
  have Av29 : Arv Z h29 b29 k29 .byte (own_tn []) (own_tb []) (.int (0 : Int32)) := Ab29
  have f32 := (H7.ext E29)
  have f33 := (H8.ext E29)
  have f34 := (H10.ext E29)
  have f35 := (H13.ext E29)
  obtain ⟨cq36, kq36, q36a, q36b, q36c⟩ := isOf hZ29 e29 f32
  obtain ⟨T36, Lc36, _, X36, hQ36, st36⟩ := fl X29 (X29.virtualBack hx (y := y16) (z := y16) hown29 (mvT hZ29 (ow hw 87 rfl)) (mvT hZ29 (ow hw 88 rfl)) (notFace_of_selects (args := #[]) (mvT hZ29 (ow hw 90 rfl))) (mvT hZ29 (ow hw 90 rfl)) (mvT hZ29 (ow hw 89 rfl)) (by decide) (own_eqB (W := 0) n0 hZ29 hw (ow hw 11 rfl) f32 f34 f33 f35 H14 Ea29 Fv29 Fc29 Av29 own_gt0 (H24.ext O_E29.2) hc25 (by decide) (by decide)) q36a q36c (g := (mkF m 17 #[rv a1, rv a2, rv a3, un] [(.ref a29), (.ref a4)])) rfl (by rw [hml]; rfl) (Steps.refl _) (argsL := [(.ref a29)]) (rest := []) (lenOf pd__Ljava_lang_Object__Z rfl) rfl wf (hb hby d15_17) (fun _ _ => ⟨rfl, e29, (by decide : 2 + 0 ≤ _), (by decide : 4 + 0 ≤ _)⟩))
  obtain ⟨rfl, N36q, e36⟩ := hQ36
  have N36 := Fr.app N26 N36q
  refine finH (Q := r15_5Q Z a1 a2 a3 a4 a9 k11 c12 a17 k19 c20 p23 a30 h0 n0) (rm := ({ frames := 2, cells := 2, slots := 4, locals := 28 } : Room)) (vm := T29.vm) Bd X36 hZ29 (own_EW hw) C_E29 hh e36 hS29 hk29 (some (.int (0 : Int32))) nofun ⟨rfl, N36, Kp_E29⟩ (by decide) (by decide) fun fs hr => ?_
  show St p e below s₁ m 0 #[rv a1, rv a2, rv a3, un] [] _
  refine XS.aloadN X0.here hx rfl (hb hby d15_0) rfl rfl ?_
  refine st6 _ ?_
  refine XS.aloadN X6.here hx rfl (hb hby d15_4) rfl rfl ?_
  refine st26.trans ?_
  refine XS.ifNo X26.here hx rfl (hb hby d15_8) rfl ((if0 _ _).trans (teq hc27).2) ?_
  refine XS.aloadN X26.here hx rfl (hb hby d15_11) rfl rfl ?_
  refine st28 _ ?_
  refine st29 _ ?_
  refine st36.trans ?_
  refine XS.ifYes X36.here hx rfl (pc0 := 20) (pc' := 27) rfl (hb hby d15_20) rfl ((if0 _ _).trans (teq hc37).1) (by decide) (by decide) ?_
  refine XS.iconst X36.here hx rfl (hb hby d15_27) ?_
  refine XS.istoreN X36.here hx rfl (hb hby d15_28) rfl (l' := #[rv a1, rv a2, rv a3, iv (0 : Int32)]) rfl ?_
  refine XS.iloadN X36.here hx rfl (hb hby d15_29) rfl ?_
  refine XS.ifYes X36.here hx rfl (pc0 := 30) (pc' := 48) rfl (hb hby d15_30) rfl ((if0 _ _).trans (teq (rfl : (0 : Int32) = (0 : Int32))).1) (by decide) (by decide) ?_
  refine XS.iconst X36.here hx rfl (hb hby d15_48) ?_
  exact retN X36 hx (t := .boolean) Bd.returns (by simp) (hb hby d15_49) hr
set_option maxRecDepth 65536 in
set_option maxHeartbeats 40000000 in
theorem law_10 (l : Launch) (Z : State) (a0 : Array Value) (hw : HW a0 Z) (ws : List Jvm.Cond) (zCOMPACT_STRINGS : Int32) (B : Base Z zCOMPACT_STRINGS) (i0 : Int32) (i1 : Int32) (i2 : Int32) (i3 : Int32) (i4 : Int32) (h0 : Heap) (n0 : Nat) (O0 : Old Z n0 h0) (hc1 : (i4 &&& (1 : Int32)) = (0 : Int32)) (hc2 : ¬ ((i4 &&& (2 : Int32)) = (0 : Int32))) (hc44 : (own_eqc (own_tl i0) (own_tl i1)) = (0 : Int32)) (hc45 : (own_eqc (own_tl i0) []) = (0 : Int32)) (hc49 : ¬ (((i0 &&& (3 : Int32)) % (3 : Int32)) = (0 : Int32))) :
    MFH l x code maxLocals ret ws room_1 Z #[(.int i0), (.int i1), (.int i2), (.int i3), (.int i4)] h0 (lawQ n0) := by
  refine own_inH (plainFor_of_name pn_com_example_agave_agave_store_StoredRequestIsSameRequestPinLaw) #[iv i0, iv i1, iv i2, iv i3, iv i4, un, un, un, un, un, un] (fun _ => by first | (simp [entryFrame, mkF, argsToLocals, Value.category, maxLocals]; done) | rfl) ?_
  intro p e s m below meth c s₁ Bd hx hby hml hown hnm hZ hh C0 e0 X0
  have N0 := Fr.nil n0
  obtain ⟨B0, B1⟩ := B
  obtain ⟨T3, h3, X3, e3, E3, A3, D3, -, st3⟩ := newO X0 hx hZ hown (ow hw 0 rfl) (ow hw 1 rfl) (ow hw 2 rfl) e0 (g := (mkF m 28 #[iv i0, iv i1, iv i2, iv i3, iv i4, iv i1, iv i2, un, un, un, un] [])) rfl (hb hby at_28) (by decide) (by decide)
  obtain ⟨b3, g3⟩ : ∃ z, z = h0.size := ⟨_, rfl⟩
  rw [← g3] at A3 D3 st3
  have O_E3 : Old Z n0 h3 := O0.ext E3
  have Kp_E3 : Keep h0 h3 [] := (Keep.refl h0 []).ext E3
  have c_E3 := CHr.ext E3 C0.1
  have C_E3 := C0.trans c_E3
  obtain ⟨T5, Lc5, _, X5, hSq5, hg5, Cq5, hQ5, st5⟩ := flH X3 (Jvm.RoadKit.callSS X3 hx (y := y0) hown (mvT hZ (ow hw 3 rfl)) (mvT hZ (ow hw 4 rfl)) (mvT hZ (ow hw 5 rfl)) (mvT hZ (ow hw 6 rfl)) (by decide) (backOfSH (s := s) (vm0 := s.vm) (W := 2) (own_text l Z a0 hw [] i0 zCOMPACT_STRINGS h3 n0 O_E3 B0 B1) hZ (ow hw 6 rfl) (ow hw 5 rfl) (by decide) (by decide) (own_EW hw) C_E3.1) (g := (mkF m 33 #[iv i0, iv i1, iv i2, iv i3, iv i4, iv i1, iv i2, un, un, un, un] [(.int i0), (.ref b3), (.ref b3)])) rfl (by rw [hml]; rfl) (argsL := [(.int i0)]) (rest := [(.ref b3), (.ref b3)]) (lenOf pd__I_Ljava_lang_String_ rfl) rfl wf (hb hby at_33) (fun _ _ => ⟨rfl, e3, (by decide : 1 + 6 ≤ _), (by decide : 5 + 12 ≤ _)⟩))
  obtain ⟨Y5, hS5, hZ5, hown5⟩ := rebS (s := s) (vm0 := s.vm) (State.WarmedH.since (State.WarmedH.refl s) 0) (by rw [e3]; exact (Nat.zero_le _)) X5 hSq5 hg5 hZ hown
  obtain ⟨b5_0, b5_1, k5_0, rfl, N5q, K5, lo5_1, f5_2, f5_3, f5_4, f5_5⟩ := hQ5
  have N5 := Fr.app N0 N5q
  have O_K5 : Old Z n0 T5.heap := O_E3.keep K5 all0
  have Kp_K5 : Keep h0 T5.heap [] := Kp_E3.trans K5 all0
  have c_K5 := Cq5
  have C_K5 := C_E3.trans c_K5
  have f6 := (A3.keep K5)
  have ne7 := Exa.neArv f6 f5_5 (ow hw 1 rfl)
  obtain ⟨T8, Lc8, _, X8, hSq8, hg8, Cq8, hQ8, st8⟩ := flH Y5 (Jvm.RoadKit.callSS Y5 hx (y := y0) hown5 (mvT hZ5 (ow hw 3 rfl)) (mvT hZ5 (ow hw 4 rfl)) (mvT hZ5 (ow hw 5 rfl)) (mvT hZ5 (ow hw 6 rfl)) (by decide) (backOfSH (s := s) (vm0 := T5.vm) (W := 3) (own_text l Z a0 hw [] i2 zCOMPACT_STRINGS T5.heap n0 O_K5 B0 B1) hZ5 (ow hw 6 rfl) (ow hw 5 rfl) (by decide) (by decide) (own_EW hw) C_K5.1) (g := (mkF m 37 #[iv i0, iv i1, iv i2, iv i3, iv i4, iv i1, iv i2, un, un, un, un] [(.int i2), (.ref b5_0), (.ref b3), (.ref b3)])) rfl (by rw [hml]; rfl) (argsL := [(.int i2)]) (rest := [(.ref b5_0), (.ref b3), (.ref b3)]) (lenOf pd__I_Ljava_lang_String_ rfl) rfl wf (hb hby at_37) (fun _ _ => ⟨rfl, rfl, (by decide : 7 + 6 ≤ _), (by decide : 17 + 12 ≤ _)⟩))
  obtain ⟨Y8, hS8, hZ8, hown8⟩ := rebS (s := s) (vm0 := T5.vm) hS5 (Nat.le_refl _) X8 hSq8 hg8 hZ5 hown5
  obtain ⟨b8_0, b8_1, k8_0, rfl, N8q, K8, lo8_1, f8_2, f8_3, f8_4, f8_5⟩ := hQ8
  have N8 := Fr.app N5 N8q
  have O_K8 : Old Z n0 T8.heap := O_K5.keep K8 all0
  have Kp_K8 : Keep h0 T8.heap [] := Kp_K5.trans K8 all0
  have c_K8 := Cq8
  have C_K8 := C_K5.trans c_K8
  have f9 := (f5_2.keep K8)
  have ne10 := Exa.neArv f9 f8_5 (ow hw 11 rfl)
  have f11 := (f6.keep K8)
  have ne12 := Exa.neArv f11 f8_5 (ow hw 1 rfl)
  have f13 : xF5 Z h3 b3 .null := D3 (Or.inr (ow hw 59 rfl)) (ty := (.object "java/lang/String")) (by decide)
  have f14 := ((f13.keep K5 nin0).keep K8 nin0)
  have g15 : n0 ≤ b3 := Nat.le_trans (Nat.le_trans (Nat.le_of_eq O0.1.symm) O0.2.1) (Nat.le_of_eq g3.symm)
  have f16 : xF7 Z h3 b3 .null := D3 (Or.inr (ow hw 61 rfl)) (ty := (.object "java/lang/String")) (by decide)
  have f17 := ((f16.keep K5 nin0).keep K8 nin0)
  have f18 : xF8 Z h3 b3 .null := D3 (Or.inr (ow hw 63 rfl)) (ty := (.object "java/util/Optional")) (by decide)
  have f19 := ((f18.keep K5 nin0).keep K8 nin0)
  have f20 : xF9 Z h3 b3 .null := D3 (Or.inr (ow hw 65 rfl)) (ty := (.object "java/util/Optional")) (by decide)
  have f21 := ((f20.keep K5 nin0).keep K8 nin0)
  have f22 : xF10 Z h3 b3 .null := D3 (Or.inr (ow hw 67 rfl)) (ty := (.object "java/util/Optional")) (by decide)
  have f23 := ((f22.keep K5 nin0).keep K8 nin0)
  obtain ⟨T24, Lc24, _, X24, hQ24, st24⟩ := fl Y8 (Y8.specialBack hx (y := y13) rfl hown8 (mvT hZ8 (ow hw 49 rfl)) (mvT hZ8 (ow hw 50 rfl)) (mvT hZ8 (ow hw 51 rfl)) (by decide) (backOf (W := 1) (r13_1 l Z a0 hw [] b3 b5_0 b8_0 T8.heap n0 O_K8 f14 f11 g15 f17 f19 f21 f23) hZ8 (ow hw 51 rfl) (ow hw 2 rfl) (by decide) (by decide)) (g := (mkF m 43 #[iv i0, iv i1, iv i2, iv i3, iv i4, iv i1, iv i2, un, un, un, un] [.null, .null, .null, (.ref b8_0), (.ref b5_0), (.ref b3), (.ref b3)])) rfl (by rw [hml]; rfl) (Steps.refl _) (a := b3) (argsL := [(.ref b5_0), (.ref b8_0), .null, .null, .null]) (rest := [(.ref b3)]) (lenOf pd__Ljava_lang_String_Ljava_lang_String_Ljava_util_Optional_Ljava_util_Optional_Ljava_util_Optional__V rfl) rfl wf (hb hby at_43) (fun _ _ => ⟨rfl, rfl, (by decide : 13 + 0 ≤ _), (by decide : 29 + 0 ≤ _)⟩))
  obtain ⟨rfl, N24q, K24, f24_1, f24_2, f24_3, f24_4, f24_5, f24_6⟩ := hQ24
  have N24 := Fr.app N8 N24q
  have sf25 := (c_K8.safe (A3.keep K5).lt (c_K5.safe A3.lt (Safe.ext E3 C0.1 (Safe.new (Nat.le_of_eq g3.symm)))))
  have z26 : h0.size ≤ b3 := Nat.le_trans (Keep.refl h0 []).1 (Nat.le_of_eq g3.symm)
  have O_K24 : Old Z n0 T24.heap := O_K8.keep K24 (allS g15 all0)
  have Kp_K24 : Keep h0 T24.heap [] := Kp_K8.trans K24 (allS (Or.inr z26) all0)
  have c_K24 := CHr.keep K24 (allS sf25 all0) C_K8.1
  have C_K24 := C_K8.trans c_K24
  obtain ⟨T27, Lc27, _, X27, hSq27, hg27, Cq27, hQ27, st27⟩ := flH X24 (Jvm.RoadKit.callSS X24 hx (y := y0) hown8 (mvT hZ8 (ow hw 3 rfl)) (mvT hZ8 (ow hw 4 rfl)) (mvT hZ8 (ow hw 5 rfl)) (mvT hZ8 (ow hw 6 rfl)) (by decide) (backOfSH (s := s) (vm0 := T8.vm) (W := 1) (own_text l Z a0 hw [] i1 zCOMPACT_STRINGS T24.heap n0 O_K24 B0 B1) hZ8 (ow hw 6 rfl) (ow hw 5 rfl) (by decide) (by decide) (own_EW hw) C_K24.1) (g := (mkF m 52 #[iv i0, iv i1, iv i2, iv i3, iv i4, iv i1, iv i2, rv b3, un, un, un] [(.int i1), (.ref b3)])) rfl (by rw [hml]; rfl) (argsL := [(.int i1)]) (rest := [(.ref b3)]) (lenOf pd__I_Ljava_lang_String_ rfl) rfl wf (hb hby at_52) (fun _ _ => ⟨rfl, rfl, (by decide : 13 + 6 ≤ _), (by decide : 29 + 12 ≤ _)⟩))
  obtain ⟨Y27, hS27, hZ27, hown27⟩ := rebS (s := s) (vm0 := T8.vm) hS8 (Nat.le_trans (Nat.le_refl _) K24.1) X27 hSq27 hg27 hZ8 hown8
  obtain ⟨b27_0, b27_1, k27_0, rfl, N27q, K27, lo27_1, f27_2, f27_3, f27_4, f27_5⟩ := hQ27
  have N27 := Fr.app N24 N27q
  have O_K27 : Old Z n0 T27.heap := O_K24.keep K27 all0
  have Kp_K27 : Keep h0 T27.heap [] := Kp_K24.trans K27 all0
  have c_K27 := Cq27
  have C_K27 := C_K24.trans c_K27
  have f28 := (f24_2.keep K27)
  have ne29 := Exa.neArv f28 f27_5 (ow hw 1 rfl)
  obtain ⟨T30, Lc30, _, X30, hSq30, hg30, Cq30, hQ30, st30⟩ := flH Y27 (Jvm.RoadKit.callSS Y27 hx (y := y0) hown27 (mvT hZ27 (ow hw 3 rfl)) (mvT hZ27 (ow hw 4 rfl)) (mvT hZ27 (ow hw 5 rfl)) (mvT hZ27 (ow hw 6 rfl)) (by decide) (backOfSH (s := s) (vm0 := T27.vm) (W := 2) (own_text l Z a0 hw [] i2 zCOMPACT_STRINGS T27.heap n0 O_K27 B0 B1) hZ27 (ow hw 6 rfl) (ow hw 5 rfl) (by decide) (by decide) (own_EW hw) C_K27.1) (g := (mkF m 57 #[iv i0, iv i1, iv i2, iv i3, iv i4, iv i1, iv i2, rv b3, un, un, un] [(.int i2), (.ref b27_0), (.ref b3)])) rfl (by rw [hml]; rfl) (argsL := [(.int i2)]) (rest := [(.ref b27_0), (.ref b3)]) (lenOf pd__I_Ljava_lang_String_ rfl) rfl wf (hb hby at_57) (fun _ _ => ⟨rfl, rfl, (by decide : 19 + 6 ≤ _), (by decide : 41 + 12 ≤ _)⟩))
  obtain ⟨Y30, hS30, hZ30, hown30⟩ := rebS (s := s) (vm0 := T27.vm) hS27 (Nat.le_refl _) X30 hSq30 hg30 hZ27 hown27
  obtain ⟨b30_0, b30_1, k30_0, rfl, N30q, K30, lo30_1, f30_2, f30_3, f30_4, f30_5⟩ := hQ30
  have N30 := Fr.app N27 N30q
  have O_K30 : Old Z n0 T30.heap := O_K27.keep K30 all0
  have Kp_K30 : Keep h0 T30.heap [] := Kp_K27.trans K30 all0
  have c_K30 := Cq30
  have C_K30 := C_K27.trans c_K30
  have f31 := (f28.keep K30)
  have ne32 := Exa.neArv f31 f30_5 (ow hw 1 rfl)
  have f33 := (f27_2.keep K30)
  have ne34 := Exa.neArv f33 f30_5 (ow hw 11 rfl)
  have f35 := ((f24_1.keep K27 nin0).keep K30 nin0)
  have f36 := (((f9.keep K24).keep K27).keep K30)
  have ne37 : b3 ≠ b5_0 := Nat.ne_of_lt (Nat.lt_of_lt_of_le A3.lt lo5_1)
  have f38 := ((((f5_3.keep K8 nin0).keep K24 (ninS (Ne.symm ne37) nin0)).keep K27 nin0).keep K30 nin0)
  have f39 := ((((f5_4.keep K8 nin0).keep K24 (ninS (Ne.symm ne37) nin0)).keep K27 nin0).keep K30 nin0)
  have f40 := ((((f5_5.keep K8 nin0).keep K24 (ninS (Ne.symm ne7) nin0)).keep K27 nin0).keep K30 nin0)
  have f41 := (f27_3.keep K30 nin0)
  have f42 := (f27_4.keep K30 nin0)
  have f43 := (f27_5.keep K30 nin0)
  obtain ⟨cq46, kq46, q46a, q46b, q46c⟩ := isOf hZ30 rfl f31
  obtain ⟨T46, Lc46, _, X46, hSq46, hg46, Cq46, hQ46, st46⟩ := flH Y30 (Y30.virtualBackS hx (y := y15) (z := y15) hown30 (mvT hZ30 (ow hw 82 rfl)) (mvT hZ30 (ow hw 83 rfl)) (notFace_of_selects (args := #[]) (mvT hZ30 (ow hw 85 rfl))) (mvT hZ30 (ow hw 85 rfl)) (mvT hZ30 (ow hw 84 rfl)) (by decide) (backOfSH (s := s) (vm0 := T30.vm) (W := 0) (r15_5 l Z a0 hw [] b3 b27_0 b30_0 b5_0 b5_1 k5_0 (own_tl i0) b27_1 k27_0 (own_tl i1) zCOMPACT_STRINGS b30_1 T30.heap n0 O_K30 f35 f36 f38 f39 f40 (own_gt _) f33 f41 f42 f43 (own_gt _) B0 B1 hc44 f30_4 hc45) hZ30 (ow hw 86 rfl) (ow hw 2 rfl) (by decide) (by decide) (own_EW hw) C_K30.1) q46a q46c (g := (mkF m 60 #[iv i0, iv i1, iv i2, iv i3, iv i4, iv i1, iv i2, rv b3, un, un, un] [(.ref b30_0), (.ref b27_0), (.ref b3)])) rfl (by rw [hml]; rfl) (Steps.refl _) (argsL := [(.ref b27_0), (.ref b30_0)]) (rest := []) (lenOf pd__Ljava_lang_String_Ljava_lang_String__Z rfl) rfl wf (hb hby at_60) (fun _ _ => ⟨rfl, rfl, (by decide : 25 + 2 ≤ _), (by decide : 53 + 4 ≤ _)⟩))
  obtain ⟨Y46, hS46, hZ46, hown46⟩ := rebS (s := s) (vm0 := T30.vm) hS30 (Nat.le_refl _) X46 hSq46 hg46 hZ30 hown30
  obtain ⟨rfl, N46q, K46⟩ := hQ46
  have N46 := Fr.app N30 N46q
  have O_K46 : Old Z n0 T46.heap := O_K30.keep K46 all0
  have Kp_K46 : Keep h0 T46.heap [] := Kp_K30.trans K46 all0
  have c_K46 := Cq46
  have C_K46 := C_K30.trans c_K46
  obtain ⟨T47, Lc47, _, X47, hQ47, st47⟩ := flC Y46 (Jvm.LawKit.callS Y46 hx (y := y17) hown46 (mvT hZ46 (ow hw 95 rfl)) (mvT hZ46 (ow hw 96 rfl)) (mvT hZ46 (ow hw 5 rfl)) (mvT hZ46 (ow hw 97 rfl)) (by decide) (backOf (W := 0) (own_same l Z a0 hw [] i0 i1 T46.heap n0 O_K46) hZ46 (ow hw 97 rfl) (ow hw 5 rfl) (by decide) (by decide)) (g := (mkF m 68 #[iv i0, iv i1, iv i2, iv i3, iv i4, iv i1, iv i2, rv b3, iv (0 : Int32), un, un] [(.int i1), (.int i0)])) rfl (by rw [hml]; rfl) (argsL := [(.int i0), (.int i1)]) (rest := []) (lenOf pd__II_Z rfl) rfl wf (hb hby at_68) (fun _ _ => ⟨rfl, rfl, (by decide : 27 + 0 ≤ _), (by decide : 57 + 0 ≤ _)⟩))
  obtain ⟨rfl, N47q, e47⟩ := hQ47
  have N47 := Fr.app N46 N47q
  obtain ⟨T48, Lc48, _, X48, hQ48, st48⟩ := flC X47 (Jvm.LawKit.callS X47 hx (y := y1) hown46 (mvT hZ46 (ow hw 7 rfl)) (mvT hZ46 (ow hw 8 rfl)) (mvT hZ46 (ow hw 5 rfl)) (mvT hZ46 (ow hw 9 rfl)) (by decide) (backOf (W := 0) (r1_1 l Z a0 hw [] i0 T46.heap n0 O_K46) hZ46 (ow hw 9 rfl) (ow hw 5 rfl) (by decide) (by decide)) (g := (mkF m 75 #[iv i0, iv i1, iv i2, iv i3, iv i4, iv i1, iv i2, rv b3, iv (0 : Int32), un, un] [(.int i0)])) rfl (by rw [hml]; rfl) (argsL := [(.int i0)]) (rest := []) (lenOf pd__I_I rfl) rfl wf (hb hby at_75) (fun _ _ => ⟨rfl, e47, (by decide : 27 + 0 ≤ _), (by decide : 57 + 0 ≤ _)⟩))
  obtain ⟨rfl, N48q, e48⟩ := hQ48
  have N48 := Fr.app N47 N48q
  refine finH (Q := lawQ n0) (rm := room_1) (vm := T46.vm) Bd X48 hZ46 (own_EW hw) C_K46 hh e48 hS46 (Nat.le_refl _) (some (.int (1 : Int32))) nofun ⟨rfl, N48⟩ (by decide) (by decide) fun fs hr => ?_
  show St p e below s₁ m 0 #[iv i0, iv i1, iv i2, iv i3, iv i4, un, un, un, un, un, un] [] _
  refine XS.iload X0.here hx rfl (hb hby at_0) rfl ?_
  refine XS.iconst X0.here hx rfl (hb hby at_2) ?_
  refine XS.iand X0.here hx rfl (hb hby at_3) rfl ?_
  refine XS.ifYes X0.here hx rfl (pc0 := 4) (pc' := 11) rfl (hb hby at_4) rfl ((if0 _ _).trans (teq hc1).1) (by decide) (by decide) ?_
  refine XS.iloadN X0.here hx rfl (hb hby at_11) rfl ?_
  refine XS.istore X0.here hx rfl (hb hby at_12) rfl (l' := #[iv i0, iv i1, iv i2, iv i3, iv i4, iv i1, un, un, un, un, un]) rfl ?_
  refine XS.iload X0.here hx rfl (hb hby at_14) rfl ?_
  refine XS.iconst X0.here hx rfl (hb hby at_16) ?_
  refine XS.iand X0.here hx rfl (hb hby at_17) rfl ?_
  refine XS.ifNo X0.here hx rfl (hb hby at_18) rfl ((if0 _ _).trans (feq hc2).1) ?_
  refine XS.iloadN X0.here hx rfl (hb hby at_21) rfl ?_
  refine XS.goto X0.here hx rfl (pc0 := 22) (pc' := 26) rfl (hb hby at_22) (by decide) (by decide) ?_
  refine XS.istore X0.here hx rfl (hb hby at_26) rfl (l' := #[iv i0, iv i1, iv i2, iv i3, iv i4, iv i1, iv i2, un, un, un, un]) rfl ?_
  refine st3 _ ?_
  refine XS.dup X3.here hx rfl (hb hby at_31) rfl rfl ?_
  refine XS.iloadN X3.here hx rfl (hb hby at_32) rfl ?_
  refine st5.trans ?_
  refine XS.iloadN Y5.here hx rfl (hb hby at_36) rfl ?_
  refine st8.trans ?_
  refine XS.aconstNull Y8.here hx rfl (hb hby at_40) ?_
  refine XS.aconstNull Y8.here hx rfl (hb hby at_41) ?_
  refine XS.aconstNull Y8.here hx rfl (hb hby at_42) ?_
  refine st24.trans ?_
  refine XS.astore X24.here hx rfl (hb hby at_46) rfl rfl (l' := #[iv i0, iv i1, iv i2, iv i3, iv i4, iv i1, iv i2, rv b3, un, un, un]) rfl ?_
  refine XS.aload X24.here hx rfl (hb hby at_48) rfl rfl ?_
  show St p e below T24 m 50 #[iv i0, iv i1, iv i2, iv i3, iv i4, iv i1, iv i2, rv b3, un, un, un] [(.ref b3)] _
  refine XS.iload X24.here hx rfl (hb hby at_50) rfl ?_
  refine st27.trans ?_
  refine XS.iload Y27.here hx rfl (hb hby at_55) rfl ?_
  refine st30.trans ?_
  refine st46.trans ?_
  refine XS.istore Y46.here hx rfl (hb hby at_63) rfl (l' := #[iv i0, iv i1, iv i2, iv i3, iv i4, iv i1, iv i2, rv b3, iv (0 : Int32), un, un]) rfl ?_
  refine XS.iloadN Y46.here hx rfl (hb hby at_65) rfl ?_
  refine XS.iload Y46.here hx rfl (hb hby at_66) rfl ?_
  refine st47 _ ?_
  refine XS.ifNo X47.here hx rfl (hb hby at_71) rfl ((if0 _ _).trans (teq hc44).2) ?_
  refine XS.iloadN X47.here hx rfl (hb hby at_74) rfl ?_
  refine st48 _ ?_
  refine XS.ifYes X48.here hx rfl (pc0 := 78) (pc' := 85) rfl (hb hby at_78) rfl ((if0 _ _).trans (feq hc49).2) (by decide) (by decide) ?_
  refine XS.iconst X48.here hx rfl (hb hby at_85) ?_
  refine XS.istore X48.here hx rfl (hb hby at_86) rfl (l' := #[iv i0, iv i1, iv i2, iv i3, iv i4, iv i1, iv i2, rv b3, iv (0 : Int32), iv (0 : Int32), un]) rfl ?_
  refine XS.iload X48.here hx rfl (hb hby at_88) rfl ?_
  refine XS.ifYes X48.here hx rfl (pc0 := 90) (pc' := 106) rfl (hb hby at_90) rfl ((if0 _ _).trans (teq (rfl : (0 : Int32) = (0 : Int32))).1) (by decide) (by decide) ?_
  refine XS.iconst X48.here hx rfl (hb hby at_106) ?_
  refine XS.istore X48.here hx rfl (hb hby at_107) rfl (l' := #[iv i0, iv i1, iv i2, iv i3, iv i4, iv i1, iv i2, rv b3, iv (0 : Int32), iv (0 : Int32), iv (0 : Int32)]) rfl ?_
  refine XS.iload X48.here hx rfl (hb hby at_109) rfl ?_
  refine XS.iload X48.here hx rfl (hb hby at_111) rfl ?_
  refine XS.icmpNo X48.here hx rfl (hb hby at_113) rfl (teq (rfl : (0 : Int32) = (0 : Int32))).2 ?_
  refine XS.iconst X48.here hx rfl (hb hby at_116) ?_
  refine XS.goto X48.here hx rfl (pc0 := 117) (pc' := 121) rfl (hb hby at_117) (by decide) (by decide) ?_
  exact retN X48 hx (t := .boolean) Bd.returns (by simp) (hb hby at_121) hr
set_option maxRecDepth 65536 in
set_option maxHeartbeats 40000000 in
theorem law_11 (l : Launch) (Z : State) (a0 : Array Value) (hw : HW a0 Z) (ws : List Jvm.Cond) (zCOMPACT_STRINGS : Int32) (B : Base Z zCOMPACT_STRINGS) (i0 : Int32) (i1 : Int32) (i2 : Int32) (i3 : Int32) (i4 : Int32) (h0 : Heap) (n0 : Nat) (O0 : Old Z n0 h0) (hc1 : (i4 &&& (1 : Int32)) = (0 : Int32)) (hc2 : (i4 &&& (2 : Int32)) = (0 : Int32)) (hc44 : (own_eqc (own_tl i0) (own_tl i1)) = (0 : Int32)) (hc45 : (own_eqc (own_tl i0) []) = (0 : Int32)) (hc49 : ¬ (((i0 &&& (3 : Int32)) % (3 : Int32)) = (0 : Int32))) :
    MFH l x code maxLocals ret ws room_1 Z #[(.int i0), (.int i1), (.int i2), (.int i3), (.int i4)] h0 (lawQ n0) := by
  refine own_inH (plainFor_of_name pn_com_example_agave_agave_store_StoredRequestIsSameRequestPinLaw) #[iv i0, iv i1, iv i2, iv i3, iv i4, un, un, un, un, un, un] (fun _ => by first | (simp [entryFrame, mkF, argsToLocals, Value.category, maxLocals]; done) | rfl) ?_
  intro p e s m below meth c s₁ Bd hx hby hml hown hnm hZ hh C0 e0 X0
  have N0 := Fr.nil n0
  obtain ⟨B0, B1⟩ := B
  obtain ⟨T3, h3, X3, e3, E3, A3, D3, -, st3⟩ := newO X0 hx hZ hown (ow hw 0 rfl) (ow hw 1 rfl) (ow hw 2 rfl) e0 (g := (mkF m 28 #[iv i0, iv i1, iv i2, iv i3, iv i4, iv i1, iv i3, un, un, un, un] [])) rfl (hb hby at_28) (by decide) (by decide)
  obtain ⟨b3, g3⟩ : ∃ z, z = h0.size := ⟨_, rfl⟩
  rw [← g3] at A3 D3 st3
  have O_E3 : Old Z n0 h3 := O0.ext E3
  have Kp_E3 : Keep h0 h3 [] := (Keep.refl h0 []).ext E3
  have c_E3 := CHr.ext E3 C0.1
  have C_E3 := C0.trans c_E3
  obtain ⟨T5, Lc5, _, X5, hSq5, hg5, Cq5, hQ5, st5⟩ := flH X3 (Jvm.RoadKit.callSS X3 hx (y := y0) hown (mvT hZ (ow hw 3 rfl)) (mvT hZ (ow hw 4 rfl)) (mvT hZ (ow hw 5 rfl)) (mvT hZ (ow hw 6 rfl)) (by decide) (backOfSH (s := s) (vm0 := s.vm) (W := 2) (own_text l Z a0 hw [] i0 zCOMPACT_STRINGS h3 n0 O_E3 B0 B1) hZ (ow hw 6 rfl) (ow hw 5 rfl) (by decide) (by decide) (own_EW hw) C_E3.1) (g := (mkF m 33 #[iv i0, iv i1, iv i2, iv i3, iv i4, iv i1, iv i3, un, un, un, un] [(.int i0), (.ref b3), (.ref b3)])) rfl (by rw [hml]; rfl) (argsL := [(.int i0)]) (rest := [(.ref b3), (.ref b3)]) (lenOf pd__I_Ljava_lang_String_ rfl) rfl wf (hb hby at_33) (fun _ _ => ⟨rfl, e3, (by decide : 1 + 6 ≤ _), (by decide : 5 + 12 ≤ _)⟩))
  obtain ⟨Y5, hS5, hZ5, hown5⟩ := rebS (s := s) (vm0 := s.vm) (State.WarmedH.since (State.WarmedH.refl s) 0) (by rw [e3]; exact (Nat.zero_le _)) X5 hSq5 hg5 hZ hown
  obtain ⟨b5_0, b5_1, k5_0, rfl, N5q, K5, lo5_1, f5_2, f5_3, f5_4, f5_5⟩ := hQ5
  have N5 := Fr.app N0 N5q
  have O_K5 : Old Z n0 T5.heap := O_E3.keep K5 all0
  have Kp_K5 : Keep h0 T5.heap [] := Kp_E3.trans K5 all0
  have c_K5 := Cq5
  have C_K5 := C_E3.trans c_K5
  have f6 := (A3.keep K5)
  have ne7 := Exa.neArv f6 f5_5 (ow hw 1 rfl)
  obtain ⟨T8, Lc8, _, X8, hSq8, hg8, Cq8, hQ8, st8⟩ := flH Y5 (Jvm.RoadKit.callSS Y5 hx (y := y0) hown5 (mvT hZ5 (ow hw 3 rfl)) (mvT hZ5 (ow hw 4 rfl)) (mvT hZ5 (ow hw 5 rfl)) (mvT hZ5 (ow hw 6 rfl)) (by decide) (backOfSH (s := s) (vm0 := T5.vm) (W := 3) (own_text l Z a0 hw [] i2 zCOMPACT_STRINGS T5.heap n0 O_K5 B0 B1) hZ5 (ow hw 6 rfl) (ow hw 5 rfl) (by decide) (by decide) (own_EW hw) C_K5.1) (g := (mkF m 37 #[iv i0, iv i1, iv i2, iv i3, iv i4, iv i1, iv i3, un, un, un, un] [(.int i2), (.ref b5_0), (.ref b3), (.ref b3)])) rfl (by rw [hml]; rfl) (argsL := [(.int i2)]) (rest := [(.ref b5_0), (.ref b3), (.ref b3)]) (lenOf pd__I_Ljava_lang_String_ rfl) rfl wf (hb hby at_37) (fun _ _ => ⟨rfl, rfl, (by decide : 7 + 6 ≤ _), (by decide : 17 + 12 ≤ _)⟩))
  obtain ⟨Y8, hS8, hZ8, hown8⟩ := rebS (s := s) (vm0 := T5.vm) hS5 (Nat.le_refl _) X8 hSq8 hg8 hZ5 hown5
  obtain ⟨b8_0, b8_1, k8_0, rfl, N8q, K8, lo8_1, f8_2, f8_3, f8_4, f8_5⟩ := hQ8
  have N8 := Fr.app N5 N8q
  have O_K8 : Old Z n0 T8.heap := O_K5.keep K8 all0
  have Kp_K8 : Keep h0 T8.heap [] := Kp_K5.trans K8 all0
  have c_K8 := Cq8
  have C_K8 := C_K5.trans c_K8
  have f9 := (f5_2.keep K8)
  have ne10 := Exa.neArv f9 f8_5 (ow hw 11 rfl)
  have f11 := (f6.keep K8)
  have ne12 := Exa.neArv f11 f8_5 (ow hw 1 rfl)
  have f13 : xF5 Z h3 b3 .null := D3 (Or.inr (ow hw 59 rfl)) (ty := (.object "java/lang/String")) (by decide)
  have f14 := ((f13.keep K5 nin0).keep K8 nin0)
  have g15 : n0 ≤ b3 := Nat.le_trans (Nat.le_trans (Nat.le_of_eq O0.1.symm) O0.2.1) (Nat.le_of_eq g3.symm)
  have f16 : xF7 Z h3 b3 .null := D3 (Or.inr (ow hw 61 rfl)) (ty := (.object "java/lang/String")) (by decide)
  have f17 := ((f16.keep K5 nin0).keep K8 nin0)
  have f18 : xF8 Z h3 b3 .null := D3 (Or.inr (ow hw 63 rfl)) (ty := (.object "java/util/Optional")) (by decide)
  have f19 := ((f18.keep K5 nin0).keep K8 nin0)
  have f20 : xF9 Z h3 b3 .null := D3 (Or.inr (ow hw 65 rfl)) (ty := (.object "java/util/Optional")) (by decide)
  have f21 := ((f20.keep K5 nin0).keep K8 nin0)
  have f22 : xF10 Z h3 b3 .null := D3 (Or.inr (ow hw 67 rfl)) (ty := (.object "java/util/Optional")) (by decide)
  have f23 := ((f22.keep K5 nin0).keep K8 nin0)
  obtain ⟨T24, Lc24, _, X24, hQ24, st24⟩ := fl Y8 (Y8.specialBack hx (y := y13) rfl hown8 (mvT hZ8 (ow hw 49 rfl)) (mvT hZ8 (ow hw 50 rfl)) (mvT hZ8 (ow hw 51 rfl)) (by decide) (backOf (W := 1) (r13_1 l Z a0 hw [] b3 b5_0 b8_0 T8.heap n0 O_K8 f14 f11 g15 f17 f19 f21 f23) hZ8 (ow hw 51 rfl) (ow hw 2 rfl) (by decide) (by decide)) (g := (mkF m 43 #[iv i0, iv i1, iv i2, iv i3, iv i4, iv i1, iv i3, un, un, un, un] [.null, .null, .null, (.ref b8_0), (.ref b5_0), (.ref b3), (.ref b3)])) rfl (by rw [hml]; rfl) (Steps.refl _) (a := b3) (argsL := [(.ref b5_0), (.ref b8_0), .null, .null, .null]) (rest := [(.ref b3)]) (lenOf pd__Ljava_lang_String_Ljava_lang_String_Ljava_util_Optional_Ljava_util_Optional_Ljava_util_Optional__V rfl) rfl wf (hb hby at_43) (fun _ _ => ⟨rfl, rfl, (by decide : 13 + 0 ≤ _), (by decide : 29 + 0 ≤ _)⟩))
  obtain ⟨rfl, N24q, K24, f24_1, f24_2, f24_3, f24_4, f24_5, f24_6⟩ := hQ24
  have N24 := Fr.app N8 N24q
  have sf25 := (c_K8.safe (A3.keep K5).lt (c_K5.safe A3.lt (Safe.ext E3 C0.1 (Safe.new (Nat.le_of_eq g3.symm)))))
  have z26 : h0.size ≤ b3 := Nat.le_trans (Keep.refl h0 []).1 (Nat.le_of_eq g3.symm)
  have O_K24 : Old Z n0 T24.heap := O_K8.keep K24 (allS g15 all0)
  have Kp_K24 : Keep h0 T24.heap [] := Kp_K8.trans K24 (allS (Or.inr z26) all0)
  have c_K24 := CHr.keep K24 (allS sf25 all0) C_K8.1
  have C_K24 := C_K8.trans c_K24
  obtain ⟨T27, Lc27, _, X27, hSq27, hg27, Cq27, hQ27, st27⟩ := flH X24 (Jvm.RoadKit.callSS X24 hx (y := y0) hown8 (mvT hZ8 (ow hw 3 rfl)) (mvT hZ8 (ow hw 4 rfl)) (mvT hZ8 (ow hw 5 rfl)) (mvT hZ8 (ow hw 6 rfl)) (by decide) (backOfSH (s := s) (vm0 := T8.vm) (W := 1) (own_text l Z a0 hw [] i1 zCOMPACT_STRINGS T24.heap n0 O_K24 B0 B1) hZ8 (ow hw 6 rfl) (ow hw 5 rfl) (by decide) (by decide) (own_EW hw) C_K24.1) (g := (mkF m 52 #[iv i0, iv i1, iv i2, iv i3, iv i4, iv i1, iv i3, rv b3, un, un, un] [(.int i1), (.ref b3)])) rfl (by rw [hml]; rfl) (argsL := [(.int i1)]) (rest := [(.ref b3)]) (lenOf pd__I_Ljava_lang_String_ rfl) rfl wf (hb hby at_52) (fun _ _ => ⟨rfl, rfl, (by decide : 13 + 6 ≤ _), (by decide : 29 + 12 ≤ _)⟩))
  obtain ⟨Y27, hS27, hZ27, hown27⟩ := rebS (s := s) (vm0 := T8.vm) hS8 (Nat.le_trans (Nat.le_refl _) K24.1) X27 hSq27 hg27 hZ8 hown8
  obtain ⟨b27_0, b27_1, k27_0, rfl, N27q, K27, lo27_1, f27_2, f27_3, f27_4, f27_5⟩ := hQ27
  have N27 := Fr.app N24 N27q
  have O_K27 : Old Z n0 T27.heap := O_K24.keep K27 all0
  have Kp_K27 : Keep h0 T27.heap [] := Kp_K24.trans K27 all0
  have c_K27 := Cq27
  have C_K27 := C_K24.trans c_K27
  have f28 := (f24_2.keep K27)
  have ne29 := Exa.neArv f28 f27_5 (ow hw 1 rfl)
  obtain ⟨T30, Lc30, _, X30, hSq30, hg30, Cq30, hQ30, st30⟩ := flH Y27 (Jvm.RoadKit.callSS Y27 hx (y := y0) hown27 (mvT hZ27 (ow hw 3 rfl)) (mvT hZ27 (ow hw 4 rfl)) (mvT hZ27 (ow hw 5 rfl)) (mvT hZ27 (ow hw 6 rfl)) (by decide) (backOfSH (s := s) (vm0 := T27.vm) (W := 2) (own_text l Z a0 hw [] i3 zCOMPACT_STRINGS T27.heap n0 O_K27 B0 B1) hZ27 (ow hw 6 rfl) (ow hw 5 rfl) (by decide) (by decide) (own_EW hw) C_K27.1) (g := (mkF m 57 #[iv i0, iv i1, iv i2, iv i3, iv i4, iv i1, iv i3, rv b3, un, un, un] [(.int i3), (.ref b27_0), (.ref b3)])) rfl (by rw [hml]; rfl) (argsL := [(.int i3)]) (rest := [(.ref b27_0), (.ref b3)]) (lenOf pd__I_Ljava_lang_String_ rfl) rfl wf (hb hby at_57) (fun _ _ => ⟨rfl, rfl, (by decide : 19 + 6 ≤ _), (by decide : 41 + 12 ≤ _)⟩))
  obtain ⟨Y30, hS30, hZ30, hown30⟩ := rebS (s := s) (vm0 := T27.vm) hS27 (Nat.le_refl _) X30 hSq30 hg30 hZ27 hown27
  obtain ⟨b30_0, b30_1, k30_0, rfl, N30q, K30, lo30_1, f30_2, f30_3, f30_4, f30_5⟩ := hQ30
  have N30 := Fr.app N27 N30q
  have O_K30 : Old Z n0 T30.heap := O_K27.keep K30 all0
  have Kp_K30 : Keep h0 T30.heap [] := Kp_K27.trans K30 all0
  have c_K30 := Cq30
  have C_K30 := C_K27.trans c_K30
  have f31 := (f28.keep K30)
  have ne32 := Exa.neArv f31 f30_5 (ow hw 1 rfl)
  have f33 := (f27_2.keep K30)
  have ne34 := Exa.neArv f33 f30_5 (ow hw 11 rfl)
  have f35 := ((f24_1.keep K27 nin0).keep K30 nin0)
  have f36 := (((f9.keep K24).keep K27).keep K30)
  have ne37 : b3 ≠ b5_0 := Nat.ne_of_lt (Nat.lt_of_lt_of_le A3.lt lo5_1)
  have f38 := ((((f5_3.keep K8 nin0).keep K24 (ninS (Ne.symm ne37) nin0)).keep K27 nin0).keep K30 nin0)
  have f39 := ((((f5_4.keep K8 nin0).keep K24 (ninS (Ne.symm ne37) nin0)).keep K27 nin0).keep K30 nin0)
  have f40 := ((((f5_5.keep K8 nin0).keep K24 (ninS (Ne.symm ne7) nin0)).keep K27 nin0).keep K30 nin0)
  have f41 := (f27_3.keep K30 nin0)
  have f42 := (f27_4.keep K30 nin0)
  have f43 := (f27_5.keep K30 nin0)
  obtain ⟨cq46, kq46, q46a, q46b, q46c⟩ := isOf hZ30 rfl f31
  obtain ⟨T46, Lc46, _, X46, hSq46, hg46, Cq46, hQ46, st46⟩ := flH Y30 (Y30.virtualBackS hx (y := y15) (z := y15) hown30 (mvT hZ30 (ow hw 82 rfl)) (mvT hZ30 (ow hw 83 rfl)) (notFace_of_selects (args := #[]) (mvT hZ30 (ow hw 85 rfl))) (mvT hZ30 (ow hw 85 rfl)) (mvT hZ30 (ow hw 84 rfl)) (by decide) (backOfSH (s := s) (vm0 := T30.vm) (W := 0) (r15_5 l Z a0 hw [] b3 b27_0 b30_0 b5_0 b5_1 k5_0 (own_tl i0) b27_1 k27_0 (own_tl i1) zCOMPACT_STRINGS b30_1 T30.heap n0 O_K30 f35 f36 f38 f39 f40 (own_gt _) f33 f41 f42 f43 (own_gt _) B0 B1 hc44 f30_4 hc45) hZ30 (ow hw 86 rfl) (ow hw 2 rfl) (by decide) (by decide) (own_EW hw) C_K30.1) q46a q46c (g := (mkF m 60 #[iv i0, iv i1, iv i2, iv i3, iv i4, iv i1, iv i3, rv b3, un, un, un] [(.ref b30_0), (.ref b27_0), (.ref b3)])) rfl (by rw [hml]; rfl) (Steps.refl _) (argsL := [(.ref b27_0), (.ref b30_0)]) (rest := []) (lenOf pd__Ljava_lang_String_Ljava_lang_String__Z rfl) rfl wf (hb hby at_60) (fun _ _ => ⟨rfl, rfl, (by decide : 25 + 2 ≤ _), (by decide : 53 + 4 ≤ _)⟩))
  obtain ⟨Y46, hS46, hZ46, hown46⟩ := rebS (s := s) (vm0 := T30.vm) hS30 (Nat.le_refl _) X46 hSq46 hg46 hZ30 hown30
  obtain ⟨rfl, N46q, K46⟩ := hQ46
  have N46 := Fr.app N30 N46q
  have O_K46 : Old Z n0 T46.heap := O_K30.keep K46 all0
  have Kp_K46 : Keep h0 T46.heap [] := Kp_K30.trans K46 all0
  have c_K46 := Cq46
  have C_K46 := C_K30.trans c_K46
  obtain ⟨T47, Lc47, _, X47, hQ47, st47⟩ := flC Y46 (Jvm.LawKit.callS Y46 hx (y := y17) hown46 (mvT hZ46 (ow hw 95 rfl)) (mvT hZ46 (ow hw 96 rfl)) (mvT hZ46 (ow hw 5 rfl)) (mvT hZ46 (ow hw 97 rfl)) (by decide) (backOf (W := 0) (own_same l Z a0 hw [] i0 i1 T46.heap n0 O_K46) hZ46 (ow hw 97 rfl) (ow hw 5 rfl) (by decide) (by decide)) (g := (mkF m 68 #[iv i0, iv i1, iv i2, iv i3, iv i4, iv i1, iv i3, rv b3, iv (0 : Int32), un, un] [(.int i1), (.int i0)])) rfl (by rw [hml]; rfl) (argsL := [(.int i0), (.int i1)]) (rest := []) (lenOf pd__II_Z rfl) rfl wf (hb hby at_68) (fun _ _ => ⟨rfl, rfl, (by decide : 27 + 0 ≤ _), (by decide : 57 + 0 ≤ _)⟩))
  obtain ⟨rfl, N47q, e47⟩ := hQ47
  have N47 := Fr.app N46 N47q
  obtain ⟨T48, Lc48, _, X48, hQ48, st48⟩ := flC X47 (Jvm.LawKit.callS X47 hx (y := y1) hown46 (mvT hZ46 (ow hw 7 rfl)) (mvT hZ46 (ow hw 8 rfl)) (mvT hZ46 (ow hw 5 rfl)) (mvT hZ46 (ow hw 9 rfl)) (by decide) (backOf (W := 0) (r1_1 l Z a0 hw [] i0 T46.heap n0 O_K46) hZ46 (ow hw 9 rfl) (ow hw 5 rfl) (by decide) (by decide)) (g := (mkF m 75 #[iv i0, iv i1, iv i2, iv i3, iv i4, iv i1, iv i3, rv b3, iv (0 : Int32), un, un] [(.int i0)])) rfl (by rw [hml]; rfl) (argsL := [(.int i0)]) (rest := []) (lenOf pd__I_I rfl) rfl wf (hb hby at_75) (fun _ _ => ⟨rfl, e47, (by decide : 27 + 0 ≤ _), (by decide : 57 + 0 ≤ _)⟩))
  obtain ⟨rfl, N48q, e48⟩ := hQ48
  have N48 := Fr.app N47 N48q
  refine finH (Q := lawQ n0) (rm := room_1) (vm := T46.vm) Bd X48 hZ46 (own_EW hw) C_K46 hh e48 hS46 (Nat.le_refl _) (some (.int (1 : Int32))) nofun ⟨rfl, N48⟩ (by decide) (by decide) fun fs hr => ?_
  show St p e below s₁ m 0 #[iv i0, iv i1, iv i2, iv i3, iv i4, un, un, un, un, un, un] [] _
  refine XS.iload X0.here hx rfl (hb hby at_0) rfl ?_
  refine XS.iconst X0.here hx rfl (hb hby at_2) ?_
  refine XS.iand X0.here hx rfl (hb hby at_3) rfl ?_
  refine XS.ifYes X0.here hx rfl (pc0 := 4) (pc' := 11) rfl (hb hby at_4) rfl ((if0 _ _).trans (teq hc1).1) (by decide) (by decide) ?_
  refine XS.iloadN X0.here hx rfl (hb hby at_11) rfl ?_
  refine XS.istore X0.here hx rfl (hb hby at_12) rfl (l' := #[iv i0, iv i1, iv i2, iv i3, iv i4, iv i1, un, un, un, un, un]) rfl ?_
  refine XS.iload X0.here hx rfl (hb hby at_14) rfl ?_
  refine XS.iconst X0.here hx rfl (hb hby at_16) ?_
  refine XS.iand X0.here hx rfl (hb hby at_17) rfl ?_
  refine XS.ifYes X0.here hx rfl (pc0 := 18) (pc' := 25) rfl (hb hby at_18) rfl ((if0 _ _).trans (teq hc2).1) (by decide) (by decide) ?_
  refine XS.iloadN X0.here hx rfl (hb hby at_25) rfl ?_
  refine XS.istore X0.here hx rfl (hb hby at_26) rfl (l' := #[iv i0, iv i1, iv i2, iv i3, iv i4, iv i1, iv i3, un, un, un, un]) rfl ?_
  refine st3 _ ?_
  refine XS.dup X3.here hx rfl (hb hby at_31) rfl rfl ?_
  refine XS.iloadN X3.here hx rfl (hb hby at_32) rfl ?_
  refine st5.trans ?_
  refine XS.iloadN Y5.here hx rfl (hb hby at_36) rfl ?_
  refine st8.trans ?_
  refine XS.aconstNull Y8.here hx rfl (hb hby at_40) ?_
  refine XS.aconstNull Y8.here hx rfl (hb hby at_41) ?_
  refine XS.aconstNull Y8.here hx rfl (hb hby at_42) ?_
  refine st24.trans ?_
  refine XS.astore X24.here hx rfl (hb hby at_46) rfl rfl (l' := #[iv i0, iv i1, iv i2, iv i3, iv i4, iv i1, iv i3, rv b3, un, un, un]) rfl ?_
  refine XS.aload X24.here hx rfl (hb hby at_48) rfl rfl ?_
  refine XS.iload X24.here hx rfl (hb hby at_50) rfl ?_
  show St p e below T24 m 52 #[iv i0, iv i1, iv i2, iv i3, iv i4, iv i1, iv i3, rv b3, un, un, un] [(.int i1), (.ref b3)] _
  refine st27.trans ?_
  refine XS.iload Y27.here hx rfl (hb hby at_55) rfl ?_
  refine st30.trans ?_
  refine st46.trans ?_
  refine XS.istore Y46.here hx rfl (hb hby at_63) rfl (l' := #[iv i0, iv i1, iv i2, iv i3, iv i4, iv i1, iv i3, rv b3, iv (0 : Int32), un, un]) rfl ?_
  refine XS.iloadN Y46.here hx rfl (hb hby at_65) rfl ?_
  refine XS.iload Y46.here hx rfl (hb hby at_66) rfl ?_
  refine st47 _ ?_
  refine XS.ifNo X47.here hx rfl (hb hby at_71) rfl ((if0 _ _).trans (teq hc44).2) ?_
  refine XS.iloadN X47.here hx rfl (hb hby at_74) rfl ?_
  refine st48 _ ?_
  refine XS.ifYes X48.here hx rfl (pc0 := 78) (pc' := 85) rfl (hb hby at_78) rfl ((if0 _ _).trans (feq hc49).2) (by decide) (by decide) ?_
  refine XS.iconst X48.here hx rfl (hb hby at_85) ?_
  refine XS.istore X48.here hx rfl (hb hby at_86) rfl (l' := #[iv i0, iv i1, iv i2, iv i3, iv i4, iv i1, iv i3, rv b3, iv (0 : Int32), iv (0 : Int32), un]) rfl ?_
  refine XS.iload X48.here hx rfl (hb hby at_88) rfl ?_
  refine XS.ifYes X48.here hx rfl (pc0 := 90) (pc' := 106) rfl (hb hby at_90) rfl ((if0 _ _).trans (teq (rfl : (0 : Int32) = (0 : Int32))).1) (by decide) (by decide) ?_
  refine XS.iconst X48.here hx rfl (hb hby at_106) ?_
  refine XS.istore X48.here hx rfl (hb hby at_107) rfl (l' := #[iv i0, iv i1, iv i2, iv i3, iv i4, iv i1, iv i3, rv b3, iv (0 : Int32), iv (0 : Int32), iv (0 : Int32)]) rfl ?_
  refine XS.iload X48.here hx rfl (hb hby at_109) rfl ?_
  refine XS.iload X48.here hx rfl (hb hby at_111) rfl ?_
  refine XS.icmpNo X48.here hx rfl (hb hby at_113) rfl (teq (rfl : (0 : Int32) = (0 : Int32))).2 ?_
  refine XS.iconst X48.here hx rfl (hb hby at_116) ?_
  refine XS.goto X48.here hx rfl (pc0 := 117) (pc' := 121) rfl (hb hby at_117) (by decide) (by decide) ?_
  exact retN X48 hx (t := .boolean) Bd.returns (by simp) (hb hby at_121) hr
theorem own_es (cs : List Int32) : ¬ (own_eqc cs cs = (0 : Int32)) := by rw [own_eqc, if_pos rfl]; decide
theorem own_ez {x : Int32} (h : ((x &&& (3 : Int32)) % (3 : Int32)) = (0 : Int32)) : ¬ (own_eqc (own_tl x) [] = (0 : Int32)) := by rw [own_tl0 h]; exact own_es _
theorem own_en {x : Int32} (h : ¬ (((x &&& (3 : Int32)) % (3 : Int32)) = (0 : Int32))) : own_eqc (own_tl x) [] = (0 : Int32) := by
  refine if_neg fun e => h ?_
  rw [← own_tlen, e]; rfl
theorem all_roads (l : Launch) (Z : State) (a0 : Array Value) (hw : ∀ d ∈ tables_1, d.before a0 Z = true) (ws : List Jvm.Cond) (zCOMPACT_STRINGS : Int32) (B : Base Z zCOMPACT_STRINGS) (i0 : Int32) (i1 : Int32) (i2 : Int32) (i3 : Int32) (i4 : Int32) (h0 : Heap) (n0 : Nat) (O0 : Old Z n0 h0) :
    MFH l x code maxLocals ret ws room_1 Z #[(.int i0), (.int i1), (.int i2), (.int i3), (.int i4)] h0 (lawQ n0) := by
  by_cases f1 : (i4 &&& (1 : Int32)) = (0 : Int32)
  · by_cases r : (own_eqc (own_tl i0) (own_tl i1)) = (0 : Int32)
    · by_cases z : ((i0 &&& (3 : Int32)) % (3 : Int32)) = (0 : Int32)
      · by_cases f2 : (i4 &&& (2 : Int32)) = (0 : Int32)
        · by_cases y : (own_eqc (own_tl i2) (own_tl i3)) = (0 : Int32)
          · exact law_9 l Z a0 hw ws zCOMPACT_STRINGS B i0 i1 i2 i3 i4 h0 n0 O0 f1 f2 r (own_ez z) y z
          · exact law_8 l Z a0 hw ws zCOMPACT_STRINGS B i0 i1 i2 i3 i4 h0 n0 O0 f1 f2 r (own_ez z) y z
        · exact law_7 l Z a0 hw ws zCOMPACT_STRINGS B i0 i1 i2 i3 i4 h0 n0 O0 f1 f2 r (own_ez z) (own_es _) z
      · by_cases f2 : (i4 &&& (2 : Int32)) = (0 : Int32)
        · exact law_11 l Z a0 hw ws zCOMPACT_STRINGS B i0 i1 i2 i3 i4 h0 n0 O0 f1 f2 r (own_en z) z
        · exact law_10 l Z a0 hw ws zCOMPACT_STRINGS B i0 i1 i2 i3 i4 h0 n0 O0 f1 f2 r (own_en z) z
    · by_cases f2 : (i4 &&& (2 : Int32)) = (0 : Int32)
      · by_cases y : (own_eqc (own_tl i2) (own_tl i3)) = (0 : Int32)
        · exact law_6 l Z a0 hw ws zCOMPACT_STRINGS B i0 i1 i2 i3 i4 h0 n0 O0 f1 f2 r y
        · exact law_5 l Z a0 hw ws zCOMPACT_STRINGS B i0 i1 i2 i3 i4 h0 n0 O0 f1 f2 r y
      · exact law_4 l Z a0 hw ws zCOMPACT_STRINGS B i0 i1 i2 i3 i4 h0 n0 O0 f1 f2 r (own_es _)
  · by_cases f2 : (i4 &&& (2 : Int32)) = (0 : Int32)
    · by_cases y : (own_eqc (own_tl i2) (own_tl i3)) = (0 : Int32)
      · exact law_3 l Z a0 hw ws zCOMPACT_STRINGS B i0 i1 i2 i3 i4 h0 n0 O0 f1 f2 (own_es _) y
      · exact law_2 l Z a0 hw ws zCOMPACT_STRINGS B i0 i1 i2 i3 i4 h0 n0 O0 f1 f2 (own_es _) y
    · exact law_1 l Z a0 hw ws zCOMPACT_STRINGS B i0 i1 i2 i3 i4 h0 n0 O0 f1 f2 (own_es _) (own_es _)
set_option maxRecDepth 65536 in
set_option maxHeartbeats 40000000 in
theorem comes_1 {Post : Tables → Env → Array Value → State → Outcome → State → Prop} (hpost : ∀ tb e args s v u, (limb_1_1.after args s (.returned v) u = true ∧ limb_1_2.after args s (.returned v) u = true ∧ True) → FramedW s (.returned v) u (Jvm.fieldLocs frame_1_writes args s ++ Jvm.arrayLocs frame_1_arrays args s ++ Jvm.staticLocs frame_1_statics s) 40 2240 → Post tb e args s (.returned v) u) :
    ArmFor flags0 classFile x code maxLocals ret World_1 tables_1 room_1 Calls_1 rest_1 Pre_1 Post := by
  intro l hfl _ _ p e ha hc hk s m args below hf hA hF happ hP
  obtain ⟨hcalls, hrest, hpre⟩ := hP
  obtain ⟨-, -, -, hnamed, -, -, -, hat⟩ := (Spec.applies_iff hf).mp happ
  obtain ⟨hg, hn⟩ := and_e (Cond.before_iff.mp (show (Jvm.Cond.and given_1 narrow_1).before args s = true from hpre))
  obtain ⟨gg1, gg2⟩ := and_e hg
  obtain ⟨gg3, gg4⟩ := and_e gg2
  obtain ⟨gg5, gg6⟩ := and_e gg4
  obtain ⟨gg7, gg8⟩ := and_e gg6
  obtain ⟨gg9, gg10⟩ := and_e gg8
  obtain ⟨w0, w1, w2, w3, w4, rfl⟩ : ∃ w0 w1 w2 w3 w4 : Value, args = #[w0, w1, w2, w3, w4] := by
    have hs : args.size = 5 := by simpa [Cond.value, given_1] using gg1
    obtain ⟨L⟩ := args
    match L, hs with
    | [w0, w1, w2, w3, w4], _ => exact ⟨w0, w1, w2, w3, w4, rfl⟩
  have hw := fun d (hd : d ∈ tables_1) => atoms_spec (ws := Jvm.Cond.code x code maxLocals ret :: tables_1) hat d (List.mem_cons_of_mem _ hd)
  have hfit : Fit s := fun {y c} hc i hi => by
    obtain ⟨ha, rfl⟩ := Array.getElem?_eq_some_iff.mp hc
    have q := List.all_eq_true.mp ((Array.all_eq_true_iff_forall_mem.mp hF) _ (Array.getElem_mem ha)) i (List.mem_range.mpr hi)
    simpa [Array.getElem?_eq_getElem hi] using q
  obtain ⟨hsets, hown0⟩ := atoms_of _ (rest_1_c_eq ▸ (show rest_1_c.before _ s = true from hrest))
  obtain ⟨i0, ei0⟩ := is_v gg3
  obtain rfl : w0 = (.int i0) := Option.some.inj ei0
  obtain ⟨i1, ei1⟩ := is_v gg5
  obtain rfl : w1 = (.int i1) := Option.some.inj ei1
  obtain ⟨i2, ei2⟩ := is_v gg7
  obtain rfl : w2 = (.int i2) := Option.some.inj ei2
  obtain ⟨i3, ei3⟩ := is_v gg9
  obtain rfl : w3 = (.int i3) := Option.some.inj ei3
  obtain ⟨i4, ei4⟩ := is_v gg10
  obtain rfl : w4 = (.int i4) := Option.some.inj ei4
  obtain ⟨zCOMPACT_STRINGS, ev_zCOMPACT_STRINGS⟩ := is_v (Cond.before_iff.mp (hsets _ (List.mem_of_getElem? (i := 1) rfl)))
  obtain ⟨hcal1, -⟩ := hcalls
  have hCH : CHv s EL0 s.vm s.heap := CHv.start (own_EW hw) (fun p hp => hcal1 p hp) (hsets _ (List.mem_of_getElem? (i := 2) rfl)) (ow hw 25 rfl) (ow hw 11 rfl)
  have hB : Base s zCOMPACT_STRINGS := ⟨Sta.start ev_zCOMPACT_STRINGS (Or.inl (hsets _ (List.mem_of_getElem? (i := 0) rfl))), gotF (Cond.eq_ints ev_zCOMPACT_STRINGS (Term.int_eval 0)) (not_v (Cond.before_iff.mp (hsets _ (List.mem_of_getElem? (i := 2) rfl))))⟩
  obtain ⟨n, o, h1, h2, h3, _, L, rfl, ⟨rfl, N⟩, -, hq⟩ := all_roads l s _ hw tables_1 zCOMPACT_STRINGS hB i0 i1 i2 i3 i4 s.heap s.heap.size (Old.start s) p e ha hc hk s m _ below hf ((Spec.applies_iff_loose hf).mp happ).1 ⟨rfl, State.Warmed39.refl s, rfl, hCH⟩ trivial
  refine ⟨n, _, h1, h2, h3, hpost _ _ _ _ _ _ ⟨Cond.after_iff.mpr rfl, Cond.after_iff.mpr (eq_i res_at (Term.int_eval (1)) rfl), trivial⟩ ?_⟩
  exact ⟨hq.1, hq.2.1, hq.2.2.1, (hq.2.2.2.sift fun y hy => Or.inr (N y hy)).mono (by decide) (by decide)⟩
theorem main_1_1 : Claimed_1_1 := comes_1 fun _ _ _ _ _ _ h hF => ⟨h.1, hF⟩
theorem main_1_2 : Claimed_1_2 := comes_1 fun _ _ _ _ _ _ h hF => ⟨h.2.1, hF⟩
end Jvm.Pilot.@@N@@
namespace Jvm.Pilot.@@N@@
open Jvm Jvm.ClassFile Sem Op Lib Jvm.Free Jvm.Stand Jvm.Pilot.@@N@@.Jvm.D
/-! MADE BY PROGRAM (witnessworld.py) out of the Statement's table words and the real class files: 19 classes; the members and pool entries that the words name. The judged class is class 1, her method 1. -/
namespace start1
open Jvm.ClassFile
def u (s : String) : CpInfo := .utf8 (stringToUtf16 s)
/-- a pool by its gaps: so many unusable entries, then the entry; so many at the end -/
def gap : Nat → List CpInfo → List CpInfo
  | 0, r => r
  | n + 1, r => .unusable :: gap n r
def poolList (es : List (Nat × CpInfo)) (last : Nat) : List CpInfo := es.foldr (fun e r => gap e.1 (e.2 :: r)) (gap last [])
def pool (es : List (Nat × CpInfo)) (last : Nat) : Array CpInfo := ⟨poolList es last⟩
def fileOf (pool : Array CpInfo) (this : Nat) (attrs : Array Attribute := #[]) (ms : Array MethodInfo := #[]) (fl : Nat := 33) (sup : Nat := 0) (ifs : Array Nat := #[]) (fds : Array FieldInfo := #[]) : ClassFile where
  minorVersion := 0
  majorVersion := 65
  constantPool := pool
  accessFlags := fl
  thisClass := this
  superClass := sup
  interfaces := ifs
  fields := fds
  methods := ms
  attributes := attrs
def plain (name : String) (sup : Option ClassId) : Class where
  name := name
  kind := .ordinary
  loader := none
  accessFlags := 33
  super := sup
  interfaces := #[]
  cf := none
  fields := #[]
  methods := #[]
  instanceTypes := #[]
  staticTypes := #[]
  resolved := #[]
  callSites := []
  init := .initialized
  statics := none
  mirror := none

def pool0 : Array CpInfo := pool [(5, u "<init>"), (0, u "()V"), (1, .class_ 10), (1, u "java/lang/Object")] 113

def k0c0 : Code := { maxStack := 0, maxLocals := 1, code := object_method_1_code, exceptionTable := #[], attributes := #[] }
def k0m0 : Method := { name := "<init>", desc := "()V", sig := { parameters := [], returnType := none }, accessFlags := 1, code := some k0c0 }
/-- java/lang/Object -/
def k0 : Class := { plain "java/lang/Object" none with
  accessFlags := 33
  interfaces := #[]
  cf := some (fileOf pool0 8 #[] #[{ accessFlags := 1, nameIndex := 5, descriptorIndex := 6, attributes := #[] }] 33 0 #[] #[])
  fields := #[]
  methods := #[k0m0]
  instanceTypes := #[]
  staticTypes := #[]
  resolved := Array.replicate 124 none
  statics := none }

def pool1 : Array CpInfo := pool [(2, .class_ 4), (1, u "java/lang/Object"), (0, u "<init>"), (0, u "()V"), (0, .class_ 8), (0, u "com/example/agave/agave/store/RequestStore$StoredRequest"), (0, .methodref 10 11), (0, .class_ 12), (0, .nameAndType 13 14), (0, u "com/example/agave/agave/store/StoredRequestIsSameRequestPinLaw"), (0, u "text"), (0, u "(I)Ljava/lang/String;"), (0, .methodref 7 16), (0, .nameAndType 5 17), (0, u "(Ljava/lang/String;Ljava/lang/String;Ljava/util/Optional;Ljava/util/Optional;Ljava/util/Optional;)V"), (0, .methodref 7 19), (0, .nameAndType 20 21), (0, u "isSameRequest"), (0, u "(Ljava/lang/String;Ljava/lang/String;)Z"), (0, .methodref 10 23), (0, .nameAndType 24 25), (0, u "sameText"), (0, u "(II)Z"), (0, .methodref 10 27), (0, .nameAndType 28 29), (0, u "length"), (0, u "(I)I"), (0, .class_ 31), (0, u "java/lang/String"), (0, .methodref 30 33), (0, .nameAndType 5 34), (0, u "([C)V"), (0, .methodref 10 36), (0, .nameAndType 37 38), (0, u "first"), (0, u "(I)C"), (0, .methodref 30 40), (0, .nameAndType 41 42), (0, u "valueOf"), (0, u "(C)Ljava/lang/String;"), (0, .methodref 10 44), (0, .nameAndType 45 38), (0, u "second"), (2, u "law"), (0, u "(IIIII)Z")] 7

def k1m0 : Method := { name := "<init>", desc := "()V", sig := { parameters := [], returnType := none }, accessFlags := 1, code := none }
def k1c1 : Code := { maxStack := 7, maxLocals := 11, code := code, exceptionTable := #[], attributes := #[] }
def k1m1 : Method := { name := "law", desc := "(IIIII)Z", sig := { parameters := [.int, .int, .int, .int, .int], returnType := some .boolean }, accessFlags := 9, code := some k1c1 }
def k1c2 : Code := { maxStack := 2, maxLocals := 1, code := method_3_code, exceptionTable := #[], attributes := #[] }
def k1m2 : Method := { name := "length", desc := "(I)I", sig := { parameters := [.int], returnType := some .int }, accessFlags := 10, code := some k1c2 }
def k1c3 : Code := { maxStack := 2, maxLocals := 1, code := method_4_code, exceptionTable := #[], attributes := #[] }
def k1m3 : Method := { name := "first", desc := "(I)C", sig := { parameters := [.int], returnType := some .char }, accessFlags := 10, code := some k1c3 }
def k1c4 : Code := { maxStack := 2, maxLocals := 1, code := method_5_code, exceptionTable := #[], attributes := #[] }
def k1m4 : Method := { name := "second", desc := "(I)C", sig := { parameters := [.int], returnType := some .char }, accessFlags := 10, code := some k1c4 }
def k1c5 : Code := { maxStack := 3, maxLocals := 3, code := method_6_code, exceptionTable := #[], attributes := #[] }
def k1m5 : Method := { name := "text", desc := "(I)Ljava/lang/String;", sig := { parameters := [.int], returnType := some (.object "java/lang/String") }, accessFlags := 10, code := some k1c5 }
def k1c6 : Code := { maxStack := 2, maxLocals := 3, code := method_7_code, exceptionTable := #[], attributes := #[] }
def k1m6 : Method := { name := "sameText", desc := "(II)Z", sig := { parameters := [.int, .int], returnType := some .boolean }, accessFlags := 10, code := some k1c6 }
/-- com/example/agave/agave/store/StoredRequestIsSameRequestPinLaw -/
def k1 : Class := { plain "com/example/agave/agave/store/StoredRequestIsSameRequestPinLaw" (some 0) with
  accessFlags := 49
  interfaces := #[]
  cf := some (fileOf pool1 10 #[] #[{ accessFlags := 1, nameIndex := 5, descriptorIndex := 6, attributes := #[] }, { accessFlags := 9, nameIndex := 48, descriptorIndex := 49, attributes := #[] }, { accessFlags := 10, nameIndex := 28, descriptorIndex := 29, attributes := #[] }, { accessFlags := 10, nameIndex := 37, descriptorIndex := 38, attributes := #[] }, { accessFlags := 10, nameIndex := 45, descriptorIndex := 38, attributes := #[] }, { accessFlags := 10, nameIndex := 13, descriptorIndex := 14, attributes := #[] }, { accessFlags := 10, nameIndex := 24, descriptorIndex := 25, attributes := #[] }] 49 2 #[] #[])
  fields := #[]
  methods := #[k1m0, k1m1, k1m2, k1m3, k1m4, k1m5, k1m6]
  instanceTypes := #[]
  staticTypes := #[]
  resolved := Array.replicate 57 none
  statics := none }

def pool2 : Array CpInfo := pool [(1, .methodref 2 3), (0, .class_ 4), (0, .nameAndType 5 6), (0, u "java/lang/Object"), (0, u "<init>"), (0, u "()V"), (0, .class_ 8), (0, u "java/lang/Record")] 13

def k2c0 : Code := { maxStack := 1, maxLocals := 1, code := jdk_30_method_1_code, exceptionTable := #[], attributes := #[] }
def k2m0 : Method := { name := "<init>", desc := "()V", sig := { parameters := [], returnType := none }, accessFlags := 4, code := some k2c0 }
/-- java/lang/Record -/
def k2 : Class := { plain "java/lang/Record" (some 0) with
  accessFlags := 1057
  interfaces := #[]
  cf := some (fileOf pool2 7 #[] #[{ accessFlags := 4, nameIndex := 5, descriptorIndex := 6, attributes := #[] }] 1057 2 #[] #[])
  fields := #[]
  methods := #[k2m0]
  instanceTypes := #[]
  staticTypes := #[]
  resolved := Array.replicate 22 none
  statics := none }

def pool3 : Array CpInfo := pool [(1, .methodref 2 3), (0, .class_ 4), (0, .nameAndType 5 6), (0, u "java/lang/Record"), (0, u "<init>"), (0, u "()V"), (0, .fieldref 8 9), (0, .class_ 10), (0, .nameAndType 11 12), (0, u "com/example/agave/agave/store/RequestStore$StoredRequest"), (0, u "route"), (0, u "Ljava/lang/String;"), (0, .fieldref 8 14), (0, .nameAndType 15 12), (0, u "payload"), (0, .fieldref 8 17), (0, .nameAndType 18 19), (0, u "result"), (0, u "Ljava/util/Optional;"), (0, .fieldref 8 21), (0, .nameAndType 22 19), (0, u "failure"), (0, .fieldref 8 24), (0, .nameAndType 25 19), (0, u "statusCode"), (10, .methodref 37 38), (0, .class_ 39), (0, .nameAndType 40 41), (0, u "java/lang/String"), (0, u "equals"), (0, u "(Ljava/lang/Object;)Z"), (2, .string 45), (0, u ""), (14, u "(Ljava/lang/String;Ljava/lang/String;Ljava/util/Optional;Ljava/util/Optional;Ljava/util/Optional;)V"), (7, u "isSameRequest"), (0, u "(Ljava/lang/String;Ljava/lang/String;)Z"), (8, .class_ 79), (0, u "com/example/agave/agave/store/RequestStore")] 36

def k3c0 : Code := { maxStack := 2, maxLocals := 6, code := prog_22_method_1_code, exceptionTable := #[], attributes := #[] }
def k3m0 : Method := { name := "<init>", desc := "(Ljava/lang/String;Ljava/lang/String;Ljava/util/Optional;Ljava/util/Optional;Ljava/util/Optional;)V", sig := { parameters := [(.object "java/lang/String"), (.object "java/lang/String"), (.object "java/util/Optional"), (.object "java/util/Optional"), (.object "java/util/Optional")], returnType := none }, accessFlags := 1, code := some k3c0 }
def k3c1 : Code := { maxStack := 2, maxLocals := 4, code := prog_22_method_3_code, exceptionTable := #[], attributes := #[] }
def k3m1 : Method := { name := "isSameRequest", desc := "(Ljava/lang/String;Ljava/lang/String;)Z", sig := { parameters := [(.object "java/lang/String"), (.object "java/lang/String")], returnType := some .boolean }, accessFlags := 1, code := some k3c1 }
/-- com/example/agave/agave/store/RequestStore$StoredRequest -/
def k3 : Class := { plain "com/example/agave/agave/store/RequestStore$StoredRequest" (some 2) with
  accessFlags := 49
  interfaces := #[]
  cf := some (fileOf pool3 8 #[.nestHost 78] #[{ accessFlags := 1, nameIndex := 5, descriptorIndex := 60, attributes := #[] }, { accessFlags := 1, nameIndex := 68, descriptorIndex := 69, attributes := #[] }] 49 2 #[] #[{ accessFlags := 18, nameIndex := 11, descriptorIndex := 12, attributes := #[] }, { accessFlags := 18, nameIndex := 15, descriptorIndex := 12, attributes := #[] }, { accessFlags := 18, nameIndex := 18, descriptorIndex := 19, attributes := #[] }, { accessFlags := 18, nameIndex := 22, descriptorIndex := 19, attributes := #[] }, { accessFlags := 18, nameIndex := 25, descriptorIndex := 19, attributes := #[] }])
  fields := #[{ name := "route", type := (.object "java/lang/String"), accessFlags := 18, slot := 0, constantValue := 0 }, { name := "payload", type := (.object "java/lang/String"), accessFlags := 18, slot := 1, constantValue := 0 }, { name := "result", type := (.object "java/util/Optional"), accessFlags := 18, slot := 2, constantValue := 0 }, { name := "failure", type := (.object "java/util/Optional"), accessFlags := 18, slot := 3, constantValue := 0 }, { name := "statusCode", type := (.object "java/util/Optional"), accessFlags := 18, slot := 4, constantValue := 0 }]
  methods := #[k3m0, k3m1]
  instanceTypes := #[(.object "java/lang/String"), (.object "java/lang/String"), (.object "java/util/Optional"), (.object "java/util/Optional"), (.object "java/util/Optional")]
  staticTypes := #[]
  resolved := Array.replicate 116 none
  statics := none }

def pool4 : Array CpInfo := pool [(1, .class_ 2), (0, u "java/io/Serializable"), (0, .class_ 4), (0, u "java/lang/Object")] 2

/-- java/io/Serializable -/
def k4 : Class := { plain "java/io/Serializable" (some 0) with
  accessFlags := 1537
  interfaces := #[]
  cf := some (fileOf pool4 1 #[] #[] 1537 3 #[] #[])
  fields := #[]
  methods := #[]
  instanceTypes := #[]
  staticTypes := #[]
  resolved := Array.replicate 7 none
  statics := none }

def pool5 : Array CpInfo := pool [(1, .class_ 2), (0, u "java/lang/Comparable"), (0, .class_ 4), (0, u "java/lang/Object")] 7

/-- java/lang/Comparable -/
def k5 : Class := { plain "java/lang/Comparable" (some 0) with
  accessFlags := 1537
  interfaces := #[]
  cf := some (fileOf pool5 1 #[] #[] 1537 3 #[] #[])
  fields := #[]
  methods := #[]
  instanceTypes := #[]
  staticTypes := #[]
  resolved := Array.replicate 12 none
  statics := none }

def pool6 : Array CpInfo := pool [(2, .class_ 4), (1, u "java/lang/CharSequence"), (42, .class_ 48), (0, u "java/lang/CharSequence$1CodePointIterator"), (10, .class_ 60), (0, u "java/lang/CharSequence$1CharIterator"), (5, .class_ 67), (0, u "java/lang/Object")] 63

/-- java/lang/CharSequence -/
def k6 : Class := { plain "java/lang/CharSequence" (some 0) with
  accessFlags := 1537
  interfaces := #[]
  cf := some (fileOf pool6 2 #[.nestMembers #[47, 59]] #[] 1537 66 #[] #[])
  fields := #[]
  methods := #[]
  instanceTypes := #[]
  staticTypes := #[]
  resolved := Array.replicate 131 none
  statics := none }

def pool7 : Array CpInfo := pool [(1, .class_ 2), (0, u "java/lang/constant/Constable"), (0, .class_ 4), (0, u "java/lang/Object")] 6

/-- java/lang/constant/Constable -/
def k7 : Class := { plain "java/lang/constant/Constable" (some 0) with
  accessFlags := 1537
  interfaces := #[]
  cf := some (fileOf pool7 1 #[] #[] 1537 3 #[] #[])
  fields := #[]
  methods := #[]
  instanceTypes := #[]
  staticTypes := #[]
  resolved := Array.replicate 11 none
  statics := none }

def pool8 : Array CpInfo := pool [(1, .class_ 2), (0, u "java/lang/constant/ConstantDesc"), (0, .class_ 4), (0, u "java/lang/Object")] 32

/-- java/lang/constant/ConstantDesc -/
def k8 : Class := { plain "java/lang/constant/ConstantDesc" (some 0) with
  accessFlags := 1537
  interfaces := #[]
  cf := some (fileOf pool8 1 #[] #[] 1537 3 #[] #[])
  fields := #[]
  methods := #[]
  instanceTypes := #[]
  staticTypes := #[]
  resolved := Array.replicate 37 none
  statics := none }

def pool9 : Array CpInfo := pool [(1, .methodref 2 3), (0, .class_ 4), (0, .nameAndType 5 6), (0, u "java/lang/Object"), (0, u "<init>"), (0, u "()V"), (0, .string 8), (0, u ""), (0, .fieldref 10 11), (0, .class_ 12), (0, .nameAndType 13 14), (0, u "java/lang/String"), (0, u "value"), (0, u "[B"), (0, .fieldref 10 16), (0, .nameAndType 17 18), (0, u "coder"), (0, u "B"), (2, u "hash"), (0, u "I"), (2, u "hashIsZero"), (0, u "Z"), (0, .methodref 10 28), (0, .nameAndType 5 29), (0, u "([CIILjava/lang/Void;)V"), (8, .fieldref 10 39), (0, .nameAndType 40 26), (0, u "COMPACT_STRINGS"), (1, .class_ 44), (1, u "java/lang/StringUTF16"), (0, u "compress"), (1, .methodref 42 48), (0, .nameAndType 49 50), (0, u "coderFromArrayLen"), (0, u "([BI)B"), (2, u "toBytes"), (53, .class_ 109), (1, u "java/lang/StringLatin1"), (67, .methodref 42 178), (0, .nameAndType 45 179), (0, u "([CII)[B"), (29, .methodref 10 210), (0, .nameAndType 5 211), (0, u "([BB)V"), (157, u "(C)Z"), (171, .methodref 107 542), (0, .nameAndType 543 544), (0, u "equals"), (0, u "([B[B)Z"), (28, u "(Ljava/lang/Object;)Z"), (1, .class_ 576), (0, u "java/lang/CharSequence"), (22, u "CASE_INSENSITIVE_ORDER"), (0, u "Ljava/util/Comparator;"), (181, u "valueOf"), (0, u "(C)Ljava/lang/String;"), (226, u "([C)V"), (4, .methodref 107 1016), (0, .nameAndType 1017 369), (0, u "canEncode"), (0, .methodref 107 1019), (0, .nameAndType 53 1020), (0, u "(C)[B"), (80, u "serialPersistentFields"), (0, u "[Ljava/io/ObjectStreamField;"), (0, .class_ 1104), (0, u "java/lang/String$CaseInsensitiveComparator"), (1, .class_ 1107), (0, u "java/io/Serializable"), (0, .class_ 1109), (0, u "java/lang/Comparable"), (0, .class_ 1111), (0, u "java/lang/constant/Constable"), (0, .class_ 1113), (0, u "java/lang/constant/ConstantDesc"), (2, u "serialVersionUID"), (0, u "J"), (3, u "REPL"), (0, u "C"), (2, u "LATIN1"), (1, u "UTF16")] 323

def k9m0 : Method := { name := "<init>", desc := "()V", sig := { parameters := [], returnType := none }, accessFlags := 1, code := none }
def k9c1 : Code := { maxStack := 5, maxLocals := 2, code := jdk_42_method_3_code, exceptionTable := #[], attributes := #[] }
def k9m1 : Method := { name := "<init>", desc := "([C)V", sig := { parameters := [(.array .char)], returnType := none }, accessFlags := 1, code := some k9c1 }
def k9c2 : Code := { maxStack := 2, maxLocals := 3, code := jdk_42_method_66_code, exceptionTable := #[], attributes := #[] }
def k9m2 : Method := { name := "equals", desc := "(Ljava/lang/Object;)Z", sig := { parameters := [(.object "java/lang/Object")], returnType := some .boolean }, accessFlags := 1, code := some k9c2 }
def k9c3 : Code := { maxStack := 4, maxLocals := 1, code := jdk_42_method_139_code, exceptionTable := #[], attributes := #[] }
def k9m3 : Method := { name := "valueOf", desc := "(C)Ljava/lang/String;", sig := { parameters := [.char], returnType := some (.object "java/lang/String") }, accessFlags := 9, code := some k9c3 }
def k9c4 : Code := { maxStack := 4, maxLocals := 6, code := jdk_42_method_149_code, exceptionTable := #[], attributes := #[] }
def k9m4 : Method := { name := "<init>", desc := "([CIILjava/lang/Void;)V", sig := { parameters := [(.array .char), .int, .int, (.object "java/lang/Void")], returnType := none }, accessFlags := 2, code := some k9c4 }
def k9c5 : Code := { maxStack := 2, maxLocals := 3, code := jdk_42_method_151_code, exceptionTable := #[], attributes := #[] }
def k9m5 : Method := { name := "<init>", desc := "([BB)V", sig := { parameters := [(.array .byte), .byte], returnType := none }, accessFlags := 0, code := some k9c5 }
/-- java/lang/String -/
def k9 : Class := { plain "java/lang/String" (some 0) with
  accessFlags := 49
  interfaces := #[4, 5, 6, 7, 8]
  cf := some (fileOf pool9 10 #[.nestMembers #[1103]] #[{ accessFlags := 1, nameIndex := 5, descriptorIndex := 6, attributes := #[] }, { accessFlags := 1, nameIndex := 5, descriptorIndex := 1010, attributes := #[] }, { accessFlags := 1, nameIndex := 543, descriptorIndex := 573, attributes := #[] }, { accessFlags := 9, nameIndex := 782, descriptorIndex := 783, attributes := #[] }, { accessFlags := 2, nameIndex := 5, descriptorIndex := 29, attributes := #[] }, { accessFlags := 0, nameIndex := 5, descriptorIndex := 211, attributes := #[] }] 49 2 #[1106, 1108, 575, 1110, 1112] #[{ accessFlags := 18, nameIndex := 13, descriptorIndex := 14, attributes := #[] }, { accessFlags := 18, nameIndex := 17, descriptorIndex := 18, attributes := #[] }, { accessFlags := 2, nameIndex := 21, descriptorIndex := 22, attributes := #[] }, { accessFlags := 2, nameIndex := 25, descriptorIndex := 26, attributes := #[] }, { accessFlags := 26, nameIndex := 1116, descriptorIndex := 1117, attributes := #[] }, { accessFlags := 24, nameIndex := 40, descriptorIndex := 26, attributes := #[] }, { accessFlags := 26, nameIndex := 1101, descriptorIndex := 1102, attributes := #[] }, { accessFlags := 26, nameIndex := 1121, descriptorIndex := 1122, attributes := #[] }, { accessFlags := 25, nameIndex := 599, descriptorIndex := 600, attributes := #[] }, { accessFlags := 24, nameIndex := 1125, descriptorIndex := 18, attributes := #[] }, { accessFlags := 24, nameIndex := 1127, descriptorIndex := 18, attributes := #[] }])
  fields := #[{ name := "value", type := (.array .byte), accessFlags := 18, slot := 0, constantValue := 0 }, { name := "coder", type := .byte, accessFlags := 18, slot := 1, constantValue := 0 }, { name := "hash", type := .int, accessFlags := 2, slot := 2, constantValue := 0 }, { name := "hashIsZero", type := .boolean, accessFlags := 2, slot := 3, constantValue := 0 }, { name := "serialVersionUID", type := .long, accessFlags := 26, slot := 0, constantValue := 0 }, { name := "COMPACT_STRINGS", type := .boolean, accessFlags := 24, slot := 1, constantValue := 0 }, { name := "serialPersistentFields", type := (.array (.object "java/io/ObjectStreamField")), accessFlags := 26, slot := 2, constantValue := 0 }, { name := "REPL", type := .char, accessFlags := 26, slot := 3, constantValue := 0 }, { name := "CASE_INSENSITIVE_ORDER", type := (.object "java/util/Comparator"), accessFlags := 25, slot := 4, constantValue := 0 }, { name := "LATIN1", type := .byte, accessFlags := 24, slot := 5, constantValue := 0 }, { name := "UTF16", type := .byte, accessFlags := 24, slot := 6, constantValue := 0 }]
  methods := #[k9m0, k9m1, k9m2, k9m3, k9m4, k9m5]
  instanceTypes := #[(.array .byte), .byte, .int, .boolean]
  staticTypes := #[.long, .boolean, (.array (.object "java/io/ObjectStreamField")), .char, (.object "java/util/Comparator"), .byte, .byte]
  resolved := Array.replicate 1451 none
  statics := some 0 }

def pool10 : Array CpInfo := pool [(6, .class_ 8), (1, u "java/lang/Object"), (0, u "<init>"), (0, u "()V"), (1, .class_ 14), (1, u "java/lang/StringUTF16"), (31, u "$assertionsDisabled"), (0, u "Z"), (13, u "HI_BYTE_SHIFT"), (0, u "I"), (2, u "LO_BYTE_SHIFT"), (49, .methodref 12 116), (0, .nameAndType 117 118), (0, u "compress"), (0, u "([CI[BII)I"), (3, u "([CII)[B"), (138, u "coderFromArrayLen"), (0, u "([BI)B"), (106, .class_ 371), (1, u "java/lang/StringUTF16$LinesSpliterator"), (58, u "MAX_LENGTH"), (196, .class_ 628), (0, u "java/lang/StringUTF16$CodePointsSpliterator"), (0, .class_ 630), (0, u "java/lang/StringUTF16$CharsSpliterator")] 4

def k10m0 : Method := { name := "<init>", desc := "()V", sig := { parameters := [], returnType := none }, accessFlags := 0, code := none }
def k10c1 : Code := { maxStack := 2, maxLocals := 2, code := jdk_52_method_15_code, exceptionTable := #[], attributes := #[] }
def k10m1 : Method := { name := "coderFromArrayLen", desc := "([BI)B", sig := { parameters := [(.array .byte), .int], returnType := some .byte }, accessFlags := 8, code := some k10c1 }
def k10c2 : Code := { maxStack := 5, maxLocals := 6, code := jdk_52_method_16_code, exceptionTable := #[], attributes := #[] }
def k10m2 : Method := { name := "compress", desc := "([CII)[B", sig := { parameters := [(.array .char), .int, .int], returnType := some (.array .byte) }, accessFlags := 9, code := some k10c2 }
def k10c3 : Code := { maxStack := 3, maxLocals := 7, code := jdk_52_method_21_code, exceptionTable := #[], attributes := #[] }
def k10m3 : Method := { name := "compress", desc := "([CI[BII)I", sig := { parameters := [(.array .char), .int, (.array .byte), .int, .int], returnType := some .int }, accessFlags := 9, code := some k10c3 }
/-- java/lang/StringUTF16 -/
def k10 : Class := { plain "java/lang/StringUTF16" (some 0) with
  accessFlags := 48
  interfaces := #[]
  cf := some (fileOf pool10 12 #[.nestMembers #[627, 629, 369]] #[{ accessFlags := 0, nameIndex := 9, descriptorIndex := 10, attributes := #[] }, { accessFlags := 8, nameIndex := 261, descriptorIndex := 262, attributes := #[] }, { accessFlags := 9, nameIndex := 117, descriptorIndex := 122, attributes := #[] }, { accessFlags := 9, nameIndex := 117, descriptorIndex := 118, attributes := #[] }] 48 6 #[] #[{ accessFlags := 26, nameIndex := 61, descriptorIndex := 62, attributes := #[] }, { accessFlags := 26, nameIndex := 65, descriptorIndex := 62, attributes := #[] }, { accessFlags := 24, nameIndex := 430, descriptorIndex := 62, attributes := #[] }, { accessFlags := 4120, nameIndex := 46, descriptorIndex := 47, attributes := #[] }])
  fields := #[{ name := "HI_BYTE_SHIFT", type := .int, accessFlags := 26, slot := 0, constantValue := 0 }, { name := "LO_BYTE_SHIFT", type := .int, accessFlags := 26, slot := 1, constantValue := 0 }, { name := "MAX_LENGTH", type := .int, accessFlags := 24, slot := 2, constantValue := 0 }, { name := "$assertionsDisabled", type := .boolean, accessFlags := 4120, slot := 3, constantValue := 0 }]
  methods := #[k10m0, k10m1, k10m2, k10m3]
  instanceTypes := #[]
  staticTypes := #[.int, .int, .int, .boolean]
  resolved := Array.replicate 635 none
  statics := none }

def pool11 : Array CpInfo := pool [(4, .class_ 6), (1, u "java/lang/Object"), (0, u "<init>"), (0, u "()V"), (5, .class_ 16), (1, u "java/lang/StringLatin1"), (73, u "canEncode"), (14, u "(C)Z"), (15, u "$assertionsDisabled"), (0, u "Z"), (98, .class_ 223), (1, u "java/lang/StringLatin1$LinesSpliterator"), (57, u "equals"), (0, u "([B[B)Z"), (97, u "toBytes"), (1, u "(C)[B"), (7, .class_ 391), (0, u "java/lang/StringLatin1$CharsSpliterator")] 3

def k11m0 : Method := { name := "<init>", desc := "()V", sig := { parameters := [], returnType := none }, accessFlags := 0, code := none }
def k11c1 : Code := { maxStack := 2, maxLocals := 1, code := jdk_43_method_3_code, exceptionTable := #[], attributes := #[] }
def k11m1 : Method := { name := "canEncode", desc := "(C)Z", sig := { parameters := [.char], returnType := some .boolean }, accessFlags := 9, code := some k11c1 }
def k11c2 : Code := { maxStack := 3, maxLocals := 3, code := jdk_43_method_13_code, exceptionTable := #[], attributes := #[] }
def k11m2 : Method := { name := "equals", desc := "([B[B)Z", sig := { parameters := [(.array .byte), (.array .byte)], returnType := some .boolean }, accessFlags := 9, code := some k11c2 }
def k11c3 : Code := { maxStack := 4, maxLocals := 1, code := jdk_43_method_46_code, exceptionTable := #[], attributes := #[] }
def k11m3 : Method := { name := "toBytes", desc := "(C)[B", sig := { parameters := [.char], returnType := some (.array .byte) }, accessFlags := 9, code := some k11c3 }
/-- java/lang/StringLatin1 -/
def k11 : Class := { plain "java/lang/StringLatin1" (some 0) with
  accessFlags := 48
  interfaces := #[]
  cf := some (fileOf pool11 14 #[.nestMembers #[390, 221]] #[{ accessFlags := 0, nameIndex := 7, descriptorIndex := 8, attributes := #[] }, { accessFlags := 9, nameIndex := 90, descriptorIndex := 105, attributes := #[] }, { accessFlags := 9, nameIndex := 281, descriptorIndex := 282, attributes := #[] }, { accessFlags := 9, nameIndex := 380, descriptorIndex := 382, attributes := #[] }] 48 4 #[] #[{ accessFlags := 4120, nameIndex := 121, descriptorIndex := 122, attributes := #[] }])
  fields := #[{ name := "$assertionsDisabled", type := .boolean, accessFlags := 4120, slot := 0, constantValue := 0 }]
  methods := #[k11m0, k11m1, k11m2, k11m3]
  instanceTypes := #[]
  staticTypes := #[.boolean]
  resolved := Array.replicate 395 none
  statics := none }

def pool12 : Array CpInfo := pool [(2, .class_ 4), (1, u "java/lang/Object"), (0, u "<init>"), (0, u "()V"), (17, .class_ 26), (1, u "jdk/internal/util/Preconditions"), (28, .class_ 56), (0, u "jdk/internal/util/Preconditions$4"), (57, .class_ 115), (0, u "jdk/internal/util/Preconditions$1"), (7, u "SIOOBE_FORMATTER"), (0, u "Ljava/util/function/BiFunction;"), (0, .class_ 126), (0, u "jdk/internal/util/Preconditions$2"), (3, u "AIOOBE_FORMATTER"), (0, .class_ 132), (0, u "jdk/internal/util/Preconditions$3"), (3, u "IOOBE_FORMATTER")] 57

def k12m0 : Method := { name := "<init>", desc := "()V", sig := { parameters := [], returnType := none }, accessFlags := 1, code := none }
/-- jdk/internal/util/Preconditions -/
def k12 : Class := { plain "jdk/internal/util/Preconditions" (some 0) with
  accessFlags := 33
  interfaces := #[]
  cf := some (fileOf pool12 24 #[.nestMembers #[55, 131, 125, 114]] #[{ accessFlags := 1, nameIndex := 5, descriptorIndex := 6, attributes := #[] }] 33 2 #[] #[{ accessFlags := 25, nameIndex := 123, descriptorIndex := 124, attributes := #[] }, { accessFlags := 25, nameIndex := 130, descriptorIndex := 124, attributes := #[] }, { accessFlags := 25, nameIndex := 136, descriptorIndex := 124, attributes := #[] }])
  fields := #[{ name := "SIOOBE_FORMATTER", type := (.object "java/util/function/BiFunction"), accessFlags := 25, slot := 0, constantValue := 0 }, { name := "AIOOBE_FORMATTER", type := (.object "java/util/function/BiFunction"), accessFlags := 25, slot := 1, constantValue := 0 }, { name := "IOOBE_FORMATTER", type := (.object "java/util/function/BiFunction"), accessFlags := 25, slot := 2, constantValue := 0 }]
  methods := #[k12m0]
  instanceTypes := #[]
  staticTypes := #[(.object "java/util/function/BiFunction"), (.object "java/util/function/BiFunction"), (.object "java/util/function/BiFunction")]
  resolved := Array.replicate 194 none
  statics := some 1 }

def pool13 : Array CpInfo := pool [(9, u "<init>"), (6, .class_ 18), (1, u "java/lang/Object"), (0, u "()V"), (1, .class_ 23), (1, u "jdk/internal/util/ArraysSupport"), (0, u "LOG2_ARRAY_LONG_INDEX_SCALE"), (0, u "I"), (2, u "U"), (0, u "Ljdk/internal/misc/Unsafe;"), (8, u "BIG_ENDIAN"), (0, u "Z"), (8, u "LOG2_BYTE_BIT_SIZE"), (4, u "LOG2_ARRAY_INT_INDEX_SCALE"), (54, u "JLA"), (0, u "Ljdk/internal/access/JavaLangAccess;"), (11, u "LOG2_ARRAY_BOOLEAN_INDEX_SCALE"), (9, u "LOG2_ARRAY_BYTE_INDEX_SCALE"), (5, u "LOG2_ARRAY_CHAR_INDEX_SCALE"), (5, u "LOG2_ARRAY_SHORT_INDEX_SCALE"), (18, u "LOG2_ARRAY_FLOAT_INDEX_SCALE"), (24, u "LOG2_ARRAY_DOUBLE_INDEX_SCALE"), (89, u "T_BOOLEAN"), (2, u "T_CHAR"), (1, u "T_FLOAT"), (1, u "T_DOUBLE"), (1, u "T_BYTE"), (1, u "T_SHORT"), (1, u "T_INT"), (1, u "T_LONG"), (1, u "SOFT_MAX_ARRAY_LENGTH")] 83

def k13m0 : Method := { name := "<init>", desc := "()V", sig := { parameters := [], returnType := none }, accessFlags := 2, code := none }
/-- jdk/internal/util/ArraysSupport -/
def k13 : Class := { plain "jdk/internal/util/ArraysSupport" (some 0) with
  accessFlags := 33
  interfaces := #[]
  cf := some (fileOf pool13 21 #[] #[{ accessFlags := 2, nameIndex := 9, descriptorIndex := 19, attributes := #[] }] 33 16 #[] #[{ accessFlags := 24, nameIndex := 28, descriptorIndex := 29, attributes := #[] }, { accessFlags := 26, nameIndex := 38, descriptorIndex := 39, attributes := #[] }, { accessFlags := 25, nameIndex := 121, descriptorIndex := 25, attributes := #[] }, { accessFlags := 25, nameIndex := 131, descriptorIndex := 25, attributes := #[] }, { accessFlags := 25, nameIndex := 137, descriptorIndex := 25, attributes := #[] }, { accessFlags := 25, nameIndex := 143, descriptorIndex := 25, attributes := #[] }, { accessFlags := 25, nameIndex := 53, descriptorIndex := 25, attributes := #[] }, { accessFlags := 25, nameIndex := 24, descriptorIndex := 25, attributes := #[] }, { accessFlags := 25, nameIndex := 162, descriptorIndex := 25, attributes := #[] }, { accessFlags := 25, nameIndex := 187, descriptorIndex := 25, attributes := #[] }, { accessFlags := 26, nameIndex := 48, descriptorIndex := 25, attributes := #[] }, { accessFlags := 25, nameIndex := 277, descriptorIndex := 25, attributes := #[] }, { accessFlags := 25, nameIndex := 280, descriptorIndex := 25, attributes := #[] }, { accessFlags := 25, nameIndex := 282, descriptorIndex := 25, attributes := #[] }, { accessFlags := 25, nameIndex := 284, descriptorIndex := 25, attributes := #[] }, { accessFlags := 25, nameIndex := 286, descriptorIndex := 25, attributes := #[] }, { accessFlags := 25, nameIndex := 288, descriptorIndex := 25, attributes := #[] }, { accessFlags := 25, nameIndex := 290, descriptorIndex := 25, attributes := #[] }, { accessFlags := 25, nameIndex := 292, descriptorIndex := 25, attributes := #[] }, { accessFlags := 26, nameIndex := 108, descriptorIndex := 109, attributes := #[] }, { accessFlags := 25, nameIndex := 294, descriptorIndex := 25, attributes := #[] }])
  fields := #[{ name := "U", type := (.object "jdk/internal/misc/Unsafe"), accessFlags := 24, slot := 0, constantValue := 0 }, { name := "BIG_ENDIAN", type := .boolean, accessFlags := 26, slot := 1, constantValue := 0 }, { name := "LOG2_ARRAY_BOOLEAN_INDEX_SCALE", type := .int, accessFlags := 25, slot := 2, constantValue := 0 }, { name := "LOG2_ARRAY_BYTE_INDEX_SCALE", type := .int, accessFlags := 25, slot := 3, constantValue := 0 }, { name := "LOG2_ARRAY_CHAR_INDEX_SCALE", type := .int, accessFlags := 25, slot := 4, constantValue := 0 }, { name := "LOG2_ARRAY_SHORT_INDEX_SCALE", type := .int, accessFlags := 25, slot := 5, constantValue := 0 }, { name := "LOG2_ARRAY_INT_INDEX_SCALE", type := .int, accessFlags := 25, slot := 6, constantValue := 0 }, { name := "LOG2_ARRAY_LONG_INDEX_SCALE", type := .int, accessFlags := 25, slot := 7, constantValue := 0 }, { name := "LOG2_ARRAY_FLOAT_INDEX_SCALE", type := .int, accessFlags := 25, slot := 8, constantValue := 0 }, { name := "LOG2_ARRAY_DOUBLE_INDEX_SCALE", type := .int, accessFlags := 25, slot := 9, constantValue := 0 }, { name := "LOG2_BYTE_BIT_SIZE", type := .int, accessFlags := 26, slot := 10, constantValue := 0 }, { name := "T_BOOLEAN", type := .int, accessFlags := 25, slot := 11, constantValue := 0 }, { name := "T_CHAR", type := .int, accessFlags := 25, slot := 12, constantValue := 0 }, { name := "T_FLOAT", type := .int, accessFlags := 25, slot := 13, constantValue := 0 }, { name := "T_DOUBLE", type := .int, accessFlags := 25, slot := 14, constantValue := 0 }, { name := "T_BYTE", type := .int, accessFlags := 25, slot := 15, constantValue := 0 }, { name := "T_SHORT", type := .int, accessFlags := 25, slot := 16, constantValue := 0 }, { name := "T_INT", type := .int, accessFlags := 25, slot := 17, constantValue := 0 }, { name := "T_LONG", type := .int, accessFlags := 25, slot := 18, constantValue := 0 }, { name := "JLA", type := (.object "jdk/internal/access/JavaLangAccess"), accessFlags := 26, slot := 19, constantValue := 0 }, { name := "SOFT_MAX_ARRAY_LENGTH", type := .int, accessFlags := 25, slot := 20, constantValue := 0 }]
  methods := #[k13m0]
  instanceTypes := #[]
  staticTypes := #[(.object "jdk/internal/misc/Unsafe"), .boolean, .int, .int, .int, .int, .int, .int, .int, .int, .int, .int, .int, .int, .int, .int, .int, .int, .int, (.object "jdk/internal/access/JavaLangAccess"), .int]
  resolved := Array.replicate 378 none
  statics := none }

def pool14 : Array CpInfo := pool [(1, u "java/lang/Cloneable"), (0, .class_ 1), (0, u "java/lang/Object"), (0, .class_ 3)] 3

/-- java/lang/Cloneable -/
def k14 : Class := { plain "java/lang/Cloneable" (some 0) with
  accessFlags := 1537
  interfaces := #[]
  cf := some (fileOf pool14 2 #[] #[] 1537 4 #[] #[])
  fields := #[]
  methods := #[]
  instanceTypes := #[]
  staticTypes := #[]
  resolved := Array.replicate 8 none
  statics := none }

/-- the primitive byte -/
def k15 : Class := { plain "byte" none with kind := .primitive 'B', accessFlags := 0x411 }
/-- [B -/
def k16 : Class := { plain "[B" (some 0) with kind := .array 15 .byte, interfaces := #[14, 4], accessFlags := 1041 }

/-- the primitive char -/
def k17 : Class := { plain "char" none with kind := .primitive 'C', accessFlags := 0x411 }
/-- [C -/
def k18 : Class := { plain "[C" (some 0) with kind := .array 17 .char, interfaces := #[14, 4], accessFlags := 1041 }

def heap : Heap := #[{ cls := 9, slots := #[.long 0, .int 1, .null, .int 0, .null, .int 0, .int 0], vm := .statics 9 },
  { cls := 12, slots := #[.null, .null, .null], vm := .statics 12 }]
def classes : Array Class := #[k0, k1, k2, k3, k4, k5, k6, k7, k8, k9, k10, k11, k12, k13, k14, k15, k16, k17, k18]
def interned : List (Array UInt16 × Addr) := []
def slotsUsed : Nat := 10
def theMethod : MethodId := ⟨1, 1⟩
def args0 : Array Value := #[.int 5, .int 5, .int 5, .int 5, .int 5]
def aboutOver (below : List Frame) : State where
  vm := { classes := classes, interned := interned.toArray }
  heap := heap
  slotsUsed := slotsUsed
  threads := #[{ frames := .invoking theMethod args0 :: below }]
def below0 : List Frame := [.native { method := ⟨0, 0⟩, args := #[] }]
def about1 : State := aboutOver below0
def p0 : Program := .bare "" "" ""
def e0 : Env := launch0.env 0 0 0
theorem w_frames : about1.frames = Frame.invoking theMethod args0 :: below0 := rfl
set_option maxRecDepth 65536 in
theorem w_args : argsFit about1.vm theMethod args0 = true := by decide +kernel
set_option maxRecDepth 65536 in
theorem w_heap : heapFits about1 = true := by decide +kernel
set_option maxRecDepth 65536 in
theorem w_runnable : about1.curStatus? = some .runnable := by decide +kernel
set_option maxRecDepth 65536 in
theorem w_alone : about1.alone = true := by decide +kernel
set_option maxRecDepth 65536 in
theorem w_named : about1.methodNamed? x = some theMethod := by decide +kernel
set_option maxRecDepth 65536 in
theorem w_hears : about1.hears theMethod below0 = true := by decide +kernel
set_option maxRecDepth 65536 in
theorem w_ripe : about1.ripe theMethod args0 below0 = true := by decide +kernel
theorem w_running : about1.status = .running := rfl
set_option maxRecDepth 65536 in
theorem w_room : about1.hasRoom e0.platform room_1 = true :=
  launch0.hasRoom_least _ room_1 (by decide +kernel) (by decide +kernel) (by decide +kernel) (by decide +kernel) (by decide +kernel) (by decide +kernel)
theorem allAtoms_all (ts : List Jvm.Cond) (a : Array Jvm.Value) (st : Jvm.State) : (allAtoms ts).before a st = ts.all (fun c => c.before a st) := by
  induction ts with
  | nil => rfl
  | cons c t ih =>
    show (Jvm.Cond.and c (allAtoms t)).before a st = _
    rw [Jvm.Cond.before_and, ih, List.all_cons]
def words1 : List Jvm.Cond := Jvm.Cond.code x code maxLocals ret :: tables_1
/-- a 'code' word, met by the world's own term for the bytes: nothing is compared byte by byte -/
theorem code_word {y : MethodName} {bytes : ByteArray} {mx : Nat} {rt : Option FieldType} {a : Array Value} {s : State} {m : MethodId} {meth : Method} {c : Code} (h1 : s.methodNamed? y = some m) (h2 : s.vm.method? m = some meth) (h3 : meth.code = some c) (h4 : c.code = bytes)
    (h5 : (c.maxLocals == mx && c.exceptionTable.isEmpty && decide (c.maxStack ≤ mostOperands) && decide (meth.sig.returnType = rt) && !meth.locks && decide (parseMethodDescriptor y.desc = some meth.sig)) = true) : (Jvm.Cond.code y bytes mx rt).before a s = true := by
  simp only [Bool.and_eq_true, beq_iff_eq, Bool.not_eq_true', decide_eq_true_eq] at h5
  obtain ⟨⟨⟨⟨⟨g1, g2⟩, g3⟩, g4⟩, g5⟩, g6⟩ := h5
  simp [Cond.before, Cond.holds, Cond.value, h1, h2, h3, h4, g1, g2, g3, g4, g5, g6]
def isCode : Jvm.Cond → Bool
  | .code _ _ _ _ => true
  | _ => false
theorem all_split {L : List Jvm.Cond} {P : Jvm.Cond → Bool} (h1 : L.all (fun c => isCode c || P c) = true) (h2 : ∀ c ∈ L.filter isCode, P c = true) : L.all P = true := by
  refine List.all_eq_true.mpr fun c hc => ?_
  have h := List.all_eq_true.mp h1 c hc
  rcases Bool.eq_false_or_eq_true (isCode c) with hi | hi
  · exact h2 c (List.mem_filter.mpr ⟨hc, hi⟩)
  · simpa [hi] using h
set_option maxRecDepth 65536 in
theorem w_c0 : (Jvm.Cond.code x code maxLocals ret).before args0 about1 = true := code_word (m := ⟨1, 1⟩) (meth := k1m1) (c := k1c1) (by decide +kernel) rfl rfl rfl (by decide +kernel)
set_option maxRecDepth 65536 in
theorem w_c1 : (Jvm.Cond.code ({ cls := "com/example/agave/agave/store/StoredRequestIsSameRequestPinLaw", name := "text", desc := "(I)Ljava/lang/String;" } : Jvm.MethodName) method_6_code (3 : Nat) (Option.some (Jvm.ClassFile.FieldType.object "java/lang/String"))).before args0 about1 = true := code_word (m := ⟨1, 5⟩) (meth := k1m5) (c := k1c5) (by decide +kernel) rfl rfl rfl (by decide +kernel)
set_option maxRecDepth 65536 in
theorem w_c2 : (Jvm.Cond.code ({ cls := "com/example/agave/agave/store/StoredRequestIsSameRequestPinLaw", name := "length", desc := "(I)I" } : Jvm.MethodName) method_3_code (1 : Nat) (Option.some Jvm.ClassFile.FieldType.int)).before args0 about1 = true := code_word (m := ⟨1, 2⟩) (meth := k1m2) (c := k1c2) (by decide +kernel) rfl rfl rfl (by decide +kernel)
set_option maxRecDepth 65536 in
theorem w_c3 : (Jvm.Cond.code ({ cls := "java/lang/String", name := "<init>", desc := "([C)V" } : Jvm.MethodName) jdk_42_method_3_code (2 : Nat) (Option.none : Option Jvm.ClassFile.FieldType)).before args0 about1 = true := code_word (m := ⟨9, 1⟩) (meth := k9m1) (c := k9c1) (by decide +kernel) rfl rfl rfl (by decide +kernel)
set_option maxRecDepth 65536 in
theorem w_c4 : (Jvm.Cond.code ({ cls := "java/lang/String", name := "<init>", desc := "([CIILjava/lang/Void;)V" } : Jvm.MethodName) jdk_42_method_149_code (6 : Nat) (Option.none : Option Jvm.ClassFile.FieldType)).before args0 about1 = true := code_word (m := ⟨9, 4⟩) (meth := k9m4) (c := k9c4) (by decide +kernel) rfl rfl rfl (by decide +kernel)
set_option maxRecDepth 65536 in
theorem w_c5 : (Jvm.Cond.code ({ cls := "java/lang/Object", name := "<init>", desc := "()V" } : Jvm.MethodName) object_method_1_code (1 : Nat) (Option.none : Option Jvm.ClassFile.FieldType)).before args0 about1 = true := code_word (m := ⟨0, 0⟩) (meth := k0m0) (c := k0c0) (by decide +kernel) rfl rfl rfl (by decide +kernel)
set_option maxRecDepth 65536 in
theorem w_c6 : (Jvm.Cond.code ({ cls := "com/example/agave/agave/store/StoredRequestIsSameRequestPinLaw", name := "first", desc := "(I)C" } : Jvm.MethodName) method_4_code (1 : Nat) (Option.some Jvm.ClassFile.FieldType.char)).before args0 about1 = true := code_word (m := ⟨1, 3⟩) (meth := k1m3) (c := k1c3) (by decide +kernel) rfl rfl rfl (by decide +kernel)
set_option maxRecDepth 65536 in
theorem w_c7 : (Jvm.Cond.code ({ cls := "com/example/agave/agave/store/StoredRequestIsSameRequestPinLaw", name := "second", desc := "(I)C" } : Jvm.MethodName) method_5_code (1 : Nat) (Option.some Jvm.ClassFile.FieldType.char)).before args0 about1 = true := code_word (m := ⟨1, 4⟩) (meth := k1m4) (c := k1c4) (by decide +kernel) rfl rfl rfl (by decide +kernel)
set_option maxRecDepth 65536 in
theorem w_c8 : (Jvm.Cond.code ({ cls := "java/lang/StringUTF16", name := "compress", desc := "([CII)[B" } : Jvm.MethodName) jdk_52_method_16_code (6 : Nat) (Option.some (Jvm.ClassFile.FieldType.array Jvm.ClassFile.FieldType.byte))).before args0 about1 = true := code_word (m := ⟨10, 2⟩) (meth := k10m2) (c := k10c2) (by decide +kernel) rfl rfl rfl (by decide +kernel)
set_option maxRecDepth 65536 in
theorem w_c9 : (Jvm.Cond.code ({ cls := "java/lang/StringUTF16", name := "compress", desc := "([CI[BII)I" } : Jvm.MethodName) jdk_52_method_21_code (7 : Nat) (Option.some Jvm.ClassFile.FieldType.int)).before args0 about1 = true := code_word (m := ⟨10, 3⟩) (meth := k10m3) (c := k10c3) (by decide +kernel) rfl rfl rfl (by decide +kernel)
set_option maxRecDepth 65536 in
theorem w_c10 : (Jvm.Cond.code ({ cls := "java/lang/StringUTF16", name := "coderFromArrayLen", desc := "([BI)B" } : Jvm.MethodName) jdk_52_method_15_code (2 : Nat) (Option.some Jvm.ClassFile.FieldType.byte)).before args0 about1 = true := code_word (m := ⟨10, 1⟩) (meth := k10m1) (c := k10c1) (by decide +kernel) rfl rfl rfl (by decide +kernel)
set_option maxRecDepth 65536 in
theorem w_c11 : (Jvm.Cond.code ({ cls := "com/example/agave/agave/store/RequestStore$StoredRequest", name := "<init>", desc := "(Ljava/lang/String;Ljava/lang/String;Ljava/util/Optional;Ljava/util/Optional;Ljava/util/Optional;)V" } : Jvm.MethodName) prog_22_method_1_code (6 : Nat) (Option.none : Option Jvm.ClassFile.FieldType)).before args0 about1 = true := code_word (m := ⟨3, 0⟩) (meth := k3m0) (c := k3c0) (by decide +kernel) rfl rfl rfl (by decide +kernel)
set_option maxRecDepth 65536 in
theorem w_c12 : (Jvm.Cond.code ({ cls := "java/lang/Record", name := "<init>", desc := "()V" } : Jvm.MethodName) jdk_30_method_1_code (1 : Nat) (Option.none : Option Jvm.ClassFile.FieldType)).before args0 about1 = true := code_word (m := ⟨2, 0⟩) (meth := k2m0) (c := k2c0) (by decide +kernel) rfl rfl rfl (by decide +kernel)
set_option maxRecDepth 65536 in
theorem w_c13 : (Jvm.Cond.code ({ cls := "java/lang/String", name := "valueOf", desc := "(C)Ljava/lang/String;" } : Jvm.MethodName) jdk_42_method_139_code (1 : Nat) (Option.some (Jvm.ClassFile.FieldType.object "java/lang/String"))).before args0 about1 = true := code_word (m := ⟨9, 3⟩) (meth := k9m3) (c := k9c3) (by decide +kernel) rfl rfl rfl (by decide +kernel)
set_option maxRecDepth 65536 in
theorem w_c14 : (Jvm.Cond.code ({ cls := "java/lang/StringLatin1", name := "canEncode", desc := "(C)Z" } : Jvm.MethodName) jdk_43_method_3_code (1 : Nat) (Option.some Jvm.ClassFile.FieldType.boolean)).before args0 about1 = true := code_word (m := ⟨11, 1⟩) (meth := k11m1) (c := k11c1) (by decide +kernel) rfl rfl rfl (by decide +kernel)
set_option maxRecDepth 65536 in
theorem w_c15 : (Jvm.Cond.code ({ cls := "java/lang/StringLatin1", name := "toBytes", desc := "(C)[B" } : Jvm.MethodName) jdk_43_method_46_code (1 : Nat) (Option.some (Jvm.ClassFile.FieldType.array Jvm.ClassFile.FieldType.byte))).before args0 about1 = true := code_word (m := ⟨11, 3⟩) (meth := k11m3) (c := k11c3) (by decide +kernel) rfl rfl rfl (by decide +kernel)
set_option maxRecDepth 65536 in
theorem w_c16 : (Jvm.Cond.code ({ cls := "java/lang/String", name := "<init>", desc := "([BB)V" } : Jvm.MethodName) jdk_42_method_151_code (3 : Nat) (Option.none : Option Jvm.ClassFile.FieldType)).before args0 about1 = true := code_word (m := ⟨9, 5⟩) (meth := k9m5) (c := k9c5) (by decide +kernel) rfl rfl rfl (by decide +kernel)
set_option maxRecDepth 65536 in
theorem w_c17 : (Jvm.Cond.code ({ cls := "com/example/agave/agave/store/RequestStore$StoredRequest", name := "isSameRequest", desc := "(Ljava/lang/String;Ljava/lang/String;)Z" } : Jvm.MethodName) prog_22_method_3_code (4 : Nat) (Option.some Jvm.ClassFile.FieldType.boolean)).before args0 about1 = true := code_word (m := ⟨3, 1⟩) (meth := k3m1) (c := k3c1) (by decide +kernel) rfl rfl rfl (by decide +kernel)
set_option maxRecDepth 65536 in
theorem w_c18 : (Jvm.Cond.code ({ cls := "java/lang/String", name := "equals", desc := "(Ljava/lang/Object;)Z" } : Jvm.MethodName) jdk_42_method_66_code (3 : Nat) (Option.some Jvm.ClassFile.FieldType.boolean)).before args0 about1 = true := code_word (m := ⟨9, 2⟩) (meth := k9m2) (c := k9c2) (by decide +kernel) rfl rfl rfl (by decide +kernel)
set_option maxRecDepth 65536 in
theorem w_c19 : (Jvm.Cond.code ({ cls := "java/lang/StringLatin1", name := "equals", desc := "([B[B)Z" } : Jvm.MethodName) jdk_43_method_13_code (3 : Nat) (Option.some Jvm.ClassFile.FieldType.boolean)).before args0 about1 = true := code_word (m := ⟨11, 2⟩) (meth := k11m2) (c := k11c2) (by decide +kernel) rfl rfl rfl (by decide +kernel)
set_option maxRecDepth 65536 in
theorem w_c20 : (Jvm.Cond.code ({ cls := "com/example/agave/agave/store/StoredRequestIsSameRequestPinLaw", name := "sameText", desc := "(II)Z" } : Jvm.MethodName) method_7_code (3 : Nat) (Option.some Jvm.ClassFile.FieldType.boolean)).before args0 about1 = true := code_word (m := ⟨1, 6⟩) (meth := k1m6) (c := k1c6) (by decide +kernel) rfl rfl rfl (by decide +kernel)
def codes1 : List Jvm.Cond := [Jvm.Cond.code x code maxLocals ret, Jvm.Cond.code ({ cls := "com/example/agave/agave/store/StoredRequestIsSameRequestPinLaw", name := "text", desc := "(I)Ljava/lang/String;" } : Jvm.MethodName) method_6_code (3 : Nat) (Option.some (Jvm.ClassFile.FieldType.object "java/lang/String")), Jvm.Cond.code ({ cls := "com/example/agave/agave/store/StoredRequestIsSameRequestPinLaw", name := "length", desc := "(I)I" } : Jvm.MethodName) method_3_code (1 : Nat) (Option.some Jvm.ClassFile.FieldType.int), Jvm.Cond.code ({ cls := "java/lang/String", name := "<init>", desc := "([C)V" } : Jvm.MethodName) jdk_42_method_3_code (2 : Nat) (Option.none : Option Jvm.ClassFile.FieldType), Jvm.Cond.code ({ cls := "java/lang/String", name := "<init>", desc := "([CIILjava/lang/Void;)V" } : Jvm.MethodName) jdk_42_method_149_code (6 : Nat) (Option.none : Option Jvm.ClassFile.FieldType), Jvm.Cond.code ({ cls := "java/lang/Object", name := "<init>", desc := "()V" } : Jvm.MethodName) object_method_1_code (1 : Nat) (Option.none : Option Jvm.ClassFile.FieldType), Jvm.Cond.code ({ cls := "com/example/agave/agave/store/StoredRequestIsSameRequestPinLaw", name := "first", desc := "(I)C" } : Jvm.MethodName) method_4_code (1 : Nat) (Option.some Jvm.ClassFile.FieldType.char), Jvm.Cond.code ({ cls := "com/example/agave/agave/store/StoredRequestIsSameRequestPinLaw", name := "second", desc := "(I)C" } : Jvm.MethodName) method_5_code (1 : Nat) (Option.some Jvm.ClassFile.FieldType.char), Jvm.Cond.code ({ cls := "java/lang/StringUTF16", name := "compress", desc := "([CII)[B" } : Jvm.MethodName) jdk_52_method_16_code (6 : Nat) (Option.some (Jvm.ClassFile.FieldType.array Jvm.ClassFile.FieldType.byte)), Jvm.Cond.code ({ cls := "java/lang/StringUTF16", name := "compress", desc := "([CI[BII)I" } : Jvm.MethodName) jdk_52_method_21_code (7 : Nat) (Option.some Jvm.ClassFile.FieldType.int), Jvm.Cond.code ({ cls := "java/lang/StringUTF16", name := "coderFromArrayLen", desc := "([BI)B" } : Jvm.MethodName) jdk_52_method_15_code (2 : Nat) (Option.some Jvm.ClassFile.FieldType.byte), Jvm.Cond.code ({ cls := "com/example/agave/agave/store/RequestStore$StoredRequest", name := "<init>", desc := "(Ljava/lang/String;Ljava/lang/String;Ljava/util/Optional;Ljava/util/Optional;Ljava/util/Optional;)V" } : Jvm.MethodName) prog_22_method_1_code (6 : Nat) (Option.none : Option Jvm.ClassFile.FieldType), Jvm.Cond.code ({ cls := "java/lang/Record", name := "<init>", desc := "()V" } : Jvm.MethodName) jdk_30_method_1_code (1 : Nat) (Option.none : Option Jvm.ClassFile.FieldType), Jvm.Cond.code ({ cls := "java/lang/String", name := "valueOf", desc := "(C)Ljava/lang/String;" } : Jvm.MethodName) jdk_42_method_139_code (1 : Nat) (Option.some (Jvm.ClassFile.FieldType.object "java/lang/String")), Jvm.Cond.code ({ cls := "java/lang/StringLatin1", name := "canEncode", desc := "(C)Z" } : Jvm.MethodName) jdk_43_method_3_code (1 : Nat) (Option.some Jvm.ClassFile.FieldType.boolean), Jvm.Cond.code ({ cls := "java/lang/StringLatin1", name := "toBytes", desc := "(C)[B" } : Jvm.MethodName) jdk_43_method_46_code (1 : Nat) (Option.some (Jvm.ClassFile.FieldType.array Jvm.ClassFile.FieldType.byte)), Jvm.Cond.code ({ cls := "java/lang/String", name := "<init>", desc := "([BB)V" } : Jvm.MethodName) jdk_42_method_151_code (3 : Nat) (Option.none : Option Jvm.ClassFile.FieldType), Jvm.Cond.code ({ cls := "com/example/agave/agave/store/RequestStore$StoredRequest", name := "isSameRequest", desc := "(Ljava/lang/String;Ljava/lang/String;)Z" } : Jvm.MethodName) prog_22_method_3_code (4 : Nat) (Option.some Jvm.ClassFile.FieldType.boolean), Jvm.Cond.code ({ cls := "java/lang/String", name := "equals", desc := "(Ljava/lang/Object;)Z" } : Jvm.MethodName) jdk_42_method_66_code (3 : Nat) (Option.some Jvm.ClassFile.FieldType.boolean), Jvm.Cond.code ({ cls := "java/lang/StringLatin1", name := "equals", desc := "([B[B)Z" } : Jvm.MethodName) jdk_43_method_13_code (3 : Nat) (Option.some Jvm.ClassFile.FieldType.boolean), Jvm.Cond.code ({ cls := "com/example/agave/agave/store/StoredRequestIsSameRequestPinLaw", name := "sameText", desc := "(II)Z" } : Jvm.MethodName) method_7_code (3 : Nat) (Option.some Jvm.ClassFile.FieldType.boolean)]
set_option maxRecDepth 65536 in
theorem codes_eq : words1.filter isCode = codes1 := rfl
theorem w_codes : ∀ c ∈ words1.filter isCode, c.before args0 about1 = true := by
  rw [codes_eq]
  intro c hc
  simp only [codes1, List.mem_cons, List.not_mem_nil, or_false] at hc
  rcases hc with rfl | rfl | rfl | rfl | rfl | rfl | rfl | rfl | rfl | rfl | rfl | rfl | rfl | rfl | rfl | rfl | rfl | rfl | rfl | rfl | rfl
  · exact w_c0
  · exact w_c1
  · exact w_c2
  · exact w_c3
  · exact w_c4
  · exact w_c5
  · exact w_c6
  · exact w_c7
  · exact w_c8
  · exact w_c9
  · exact w_c10
  · exact w_c11
  · exact w_c12
  · exact w_c13
  · exact w_c14
  · exact w_c15
  · exact w_c16
  · exact w_c17
  · exact w_c18
  · exact w_c19
  · exact w_c20
set_option maxRecDepth 65536 in
theorem w_t1 : (words1.take 24).all (fun c => isCode c || c.before args0 about1) = true := by decide +kernel
set_option maxRecDepth 65536 in
theorem w_t2 : ((words1.drop 24).take 24).all (fun c => isCode c || c.before args0 about1) = true := by decide +kernel
set_option maxRecDepth 65536 in
theorem w_t3 : (((words1.drop 24).drop 24).take 24).all (fun c => isCode c || c.before args0 about1) = true := by decide +kernel
set_option maxRecDepth 65536 in
theorem w_t4 : ((((words1.drop 24).drop 24).drop 24).take 24).all (fun c => isCode c || c.before args0 about1) = true := by decide +kernel
set_option maxRecDepth 65536 in
theorem w_t5 : ((((words1.drop 24).drop 24).drop 24).drop 24).all (fun c => isCode c || c.before args0 about1) = true := by decide +kernel
theorem w_tables : (allAtoms (Jvm.Cond.code x code maxLocals ret :: tables_1)).before args0 about1 = true := by
  rw [allAtoms_all]
  show words1.all (fun c => c.before args0 about1) = true
  refine all_split ?_ w_codes
  rw [← List.take_append_drop 24 words1, List.all_append, w_t1, ← List.take_append_drop 24 (words1.drop 24), List.all_append, w_t2, ← List.take_append_drop 24 ((words1.drop 24).drop 24), List.all_append, w_t3, ← List.take_append_drop 24 (((words1.drop 24).drop 24).drop 24), List.all_append, w_t4, w_t5]
  rfl
set_option maxRecDepth 65536 in
theorem w_rest : rest_1_c.before args0 about1 = true := by decide +kernel
set_option maxRecDepth 65536 in
theorem w_case : (Jvm.Cond.and given_1 narrow_1).before args0 about1 = true := by decide +kernel
set_option maxRecDepth 65536 in
theorem w_consts : constsHeld consts_1 about1 := Jvm.Lit.constsHeldB_iff.mp (by decide +kernel)
theorem w_applies : (headSpec (Jvm.Cond.code x code maxLocals ret :: tables_1) room_1).applies x e0.platform about1 = true :=
  (Spec.applies_iff w_frames).mpr ⟨w_running, w_runnable, w_alone, w_named, w_hears, w_ripe, w_room, w_tables⟩
theorem atStart : AtStart classFile x code maxLocals ret World_1 tables_1 room_1 Calls_1 rest_1 Pre_1 launch0 p0 e0 about1 theMethod args0 below0 :=
  ⟨lists_1, trivial, launch0.admits_env _ _ _, launch0.least_env, fairChoices_fair.cas, fairChoices_fair.clock, w_frames, w_args, w_heap, w_applies, ⟨w_consts, trivial⟩, w_rest, w_case⟩
end start1
theorem witness_1 : WitnessClaimed_1 := ⟨start1.p0, start1.e0, start1.about1, start1.theMethod, start1.args0, start1.below0, start1.atStart⟩
end Jvm.Pilot.@@N@@
