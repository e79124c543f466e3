import JvmDerived
import JvmDerived.Pilot.@@N@@Statement
import JvmDerived.Pilot.@@N@@Code
set_option linter.unusedVariables false
set_option linter.unusedSimpArgs false
/- laws to paste: Road.lenW, Road.chN, Road.codOf, Road.backV (cut by pick.py; bodies as the Statement names them) -/
namespace Jvm.Pilot.@@N@@
namespace StrChars
open Jvm Sem ClassFile Op Lib Jvm.Stand Jvm.Free.XT Jvm.Free.ALB Jvm.Free.JM Jvm.Free
open Jvm.Lib.Cold (StaticIs)
/-- a char array whose places are chars -/
def Ch (a : Addr) (A : Cell) (U : State) : Prop := Arr .char a A U ∧ Typed .char A
theorem Ch.mv {a : Addr} {A : Cell} {U U' : State} (h : Ch a A U) (hal : U.vm.Alike U'.vm) (hh : U'.heap = U.heap) : Ch a A U' := ⟨h.1.mv hal hh, h.2⟩
theorem Ch.keep {a : Addr} {A : Cell} {U U' : State} (h : Ch a A U) (hal : U.vm.Alike U'.vm) (hk : U'.heap[a]? = some A) : Ch a A U' := ⟨h.1.keep hal hk, h.2⟩
/-- what place i of a char[]'s cell holds -/
def cv (A : Cell) (i : Nat) : Int32 := match A.slots[i]? with | some (.int x) => x | _ => 0
theorem Ch.get {a : Addr} {A : Cell} {U : State} (h : Ch a A U) {i : Nat} (hi : i < A.slots.size) : A.slots[i]? = some (.int (cv A i)) := by
  have e := Array.getElem?_eq_getElem hi
  have f := h.2 i _ e
  unfold cv; rw [e]
  generalize A.slots[i] = v at f
  cases v <;> simp [fits] at f ⊢
/-- the byte that i2b leaves of a char -/
def lo8 (x : Int32) : Int32 := x.toInt8.toInt32
theorem fits_lo8 (y : Int32) : fits .byte (.int (lo8 y)) = true := by
  have h1 := y.toInt8.le_toInt
  have h2 := y.toInt8.toInt_lt
  simp only [lo8, fits, Bool.and_eq_true, decide_eq_true_eq, Int32.le_iff_toInt_le, Int8.toInt_toInt32, show (-128 : Int32).toInt = -128 from by decide, show (127 : Int32).toInt = 127 from by decide]
  omega
/-- A' is A but that each place j of lo .. hi - 1 holds f j -/
def Laid (A A' : Cell) (lo hi : Nat) (f : Nat → Value) : Prop := A'.cls = A.cls ∧ A'.vm = A.vm ∧ A'.slots.size = A.slots.size ∧ ∀ i, A'.slots[i]? = if lo ≤ i ∧ i < hi then some (f i) else A.slots[i]?
theorem Laid.zero (A : Cell) (lo : Nat) (f : Nat → Value) : Laid A A lo (lo + 0) f := ⟨rfl, rfl, rfl, fun i => by rw [if_neg (by omega)]⟩
theorem Laid.step {A Ak : Cell} {lo k : Nat} {f : Nat → Value} {v : Value} (h : Laid A Ak lo k f) (hlo : lo ≤ k) (hk : k < Ak.slots.size) (hv : v = f k) : Laid A (Ak.setSlot k v) lo (k + 1) f := by
  refine ⟨h.1, h.2.1, by simpa [Cell.setSlot] using h.2.2.1, fun i => ?_⟩
  by_cases e : k = i
  · subst e; rw [Cell.slots_setSlot_self v hk, if_pos (by omega), hv]
  · rw [Cell.slots_setSlot_ne v e, h.2.2.2 i]
    by_cases q : lo ≤ i ∧ i < k
    · rw [if_pos q, if_pos (by omega)]
    · rw [if_neg q, if_neg (by omega)]
def U16 : String := "java/lang/StringUTF16"
namespace Cmp5
def yN : MethodName := ⟨"java/lang/StringUTF16", "compress", "([CI[BII)I"⟩
abbrev yB : ByteArray := jdk_52_method_21_code
theorem d0 : decode yB 0 = .ok (.iconst 0, 1) := by decide +kernel
theorem d1 : decode yB 1 = .ok (.istore 5, 2) := by decide +kernel
theorem d3 : decode yB 3 = .ok (.iload 5, 2) := by decide +kernel
theorem d5 : decode yB 5 = .ok (.iload 4, 2) := by decide +kernel
theorem d7 : decode yB 7 = .ok (.if_icmp (.ge) 37, 3) := by decide +kernel
theorem d10 : decode yB 10 = .ok (.aload_n 0, 1) := by decide +kernel
theorem d11 : decode yB 11 = .ok (.iload_n 1, 1) := by decide +kernel
theorem d12 : decode yB 12 = .ok (.caload, 1) := by decide +kernel
theorem d13 : decode yB 13 = .ok (.istore 6, 2) := by decide +kernel
theorem d15 : decode yB 15 = .ok (.iload 6, 2) := by decide +kernel
theorem d17 : decode yB 17 = .ok (.sipush 255, 3) := by decide +kernel
theorem d20 : decode yB 20 = .ok (.if_icmp (.le) 6, 3) := by decide +kernel
theorem d26 : decode yB 26 = .ok (.aload_n 2, 1) := by decide +kernel
theorem d27 : decode yB 27 = .ok (.iload_n 3, 1) := by decide +kernel
theorem d28 : decode yB 28 = .ok (.iload 6, 2) := by decide +kernel
theorem d30 : decode yB 30 = .ok (.i2b, 1) := by decide +kernel
theorem d31 : decode yB 31 = .ok (.bastore, 1) := by decide +kernel
theorem d32 : decode yB 32 = .ok (.iinc 1 1, 3) := by decide +kernel
theorem d35 : decode yB 35 = .ok (.iinc 3 1, 3) := by decide +kernel
theorem d38 : decode yB 38 = .ok (.iinc 5 1, 3) := by decide +kernel
theorem d41 : decode yB 41 = .ok (.goto (-38), 3) := by decide +kernel
theorem d44 : decode yB 44 = .ok (.iload 4, 2) := by decide +kernel
theorem d46 : decode yB 46 = .ok (.ireturn, 1) := by decide +kernel
def site : List Cond := []
def tab : Cond := tabOf yN yB 7 (some .int) site
def P (b : Addr) (A : Cell) (d : Addr) (B : Cell) (o q len : Nat) (args : Array Value) (s : State) : Prop := args = #[.ref b, .int (Int32.ofNat o), .ref d, .int (Int32.ofNat q), .int (Int32.ofNat len)] ∧ Ch b A s ∧ Arr .byte d B s ∧ b ≠ d ∧ o + len ≤ A.slots.size ∧ q + len ≤ B.slots.size ∧ ∀ i, i < len → ¬ 255 < cv A (o + i)
def E (b : Addr) (A : Cell) (d : Addr) (B : Cell) (o q len : Nat) (r : Option Value) (s u : State) : Prop := r = some (.int (Int32.ofNat len)) ∧ ∃ B', Put d B' s u ∧ Laid B B' q (q + len) (fun j => Value.int (lo8 (cv A (o + (j - q)))))
/-- no char of the range above 255: len; the places written hold each char's low byte -/
theorem law (l : Launch) (b : Addr) (A : Cell) (d : Addr) (B : Cell) (o q len : Nat) : Law l yN 5 5 0 0 yB 7 (some .int) site (P b A d B o q len) (E b A d B o q len) (copyLocs d q len) 0 0 := by
  refine Law.of_walk (plainFor_of_name (by decide +kernel)) (by decide +kernel) (by decide +kernel) (by decide) (fun _ _ h => by rw [h.1]; rfl) (fun _ U U' hal hh h => ⟨h.1, h.2.1.mv hal hh, h.2.2.1.mv hal hh, h.2.2.2⟩) (fun r U U' V V' h1 hal h2 h => ⟨h.1, h.2.elim fun B' q => ⟨B', q.1.mv h1 h2, q.2⟩⟩) ?_
  intro p e s m args below meth c s₁ X0 hexec hbytes hml hret hlk hnm hown hh0 W hP
  obtain ⟨rfl, hA, hB, hne, l1, l2, hp⟩ := hP
  have c1 : Steps p.tables e below (s₁.setTop (entryFrame m #[.ref b, .int (Int32.ofNat o), .ref d, .int (Int32.ofNat q), .int (Int32.ofNat len)] 7)) (s₁.setTop (mkF m 0 #[.val (.ref b), .val (.int (Int32.ofNat o)), .val (.ref d), .val (.int (Int32.ofNat q)), .val (.int (Int32.ofNat len)), .unset, .unset] [])) := entry rfl
  have hA0 := hA.1.mv X0.warmed.alike hh0
  have hB0 := hB.mv X0.warmed.alike hh0
  have a31 := hA.1.2.2.2
  have c2 : Steps p.tables e below (s₁.setTop (entryFrame m #[.ref b, .int (Int32.ofNat o), .ref d, .int (Int32.ofNat q), .int (Int32.ofNat len)] 7)) (s₁.setTop (mkF m 3 #[.val (.ref b), .val (.int (Int32.ofNat o)), .val (.ref d), .val (.int (Int32.ofNat q)), .val (.int (Int32.ofNat len)), .val (.int 0), .unset] [])) := c1.trans (by
    refine iconstV X0.here hexec rfl 0 (hb hbytes d0) (by decide) ?_
    refine XS.istore X0.here hexec rfl (hb hbytes d1) rfl rfl ?_
    exact Steps.refl _)
  have loop : ∀ (r i : Nat), i + r = len → ∀ (z : Slot), (z = .unset ∨ ∃ w, z = .val w ∧ w.category = 1) → ∀ (Tl : State) (Bk : Cell), Stand p l e { frames := 0, locals := 0, cells := 0, slots := 0 } s m #[.ref b, .int (Int32.ofNat o), .ref d, .int (Int32.ofNat q), .int (Int32.ofNat len)] below meth c Tl ([] ++ copyLocs d q i) 0 0 → Put d Bk s₁ Tl → Laid B Bk q (q + i) (fun j => Value.int (lo8 (cv A (o + (j - q))))) →
      Steps p.tables e below (s₁.setTop (entryFrame m #[.ref b, .int (Int32.ofNat o), .ref d, .int (Int32.ofNat q), .int (Int32.ofNat len)] 7)) (Tl.setTop (mkF m 3 #[.val (.ref b), .val (.int (Int32.ofNat (o + i))), .val (.ref d), .val (.int (Int32.ofNat (q + i))), .val (.int (Int32.ofNat len)), .val (.int (Int32.ofNat i)), z] [])) → ∃ (T' : State) (B' : Cell) (z' : Slot), Stand p l e { frames := 0, locals := 0, cells := 0, slots := 0 } s m #[.ref b, .int (Int32.ofNat o), .ref d, .int (Int32.ofNat q), .int (Int32.ofNat len)] below meth c T' ([] ++ copyLocs d q len) 0 0 ∧ Put d B' s₁ T' ∧ Laid B B' q (q + len) (fun j => Value.int (lo8 (cv A (o + (j - q))))) ∧
      Steps p.tables e below (s₁.setTop (entryFrame m #[.ref b, .int (Int32.ofNat o), .ref d, .int (Int32.ofNat q), .int (Int32.ofNat len)] 7)) (T'.setTop (mkF m 3 #[.val (.ref b), .val (.int (Int32.ofNat (o + len))), .val (.ref d), .val (.int (Int32.ofNat (q + len))), .val (.int (Int32.ofNat len)), .val (.int (Int32.ofNat len)), z'] [])) := by
    intro r
    induction r with
    | zero =>
      intro i hi z hz Tl Bk Xl pl fl cl
      have hil : i = len := by omega
      rw [hil] at Xl fl cl
      exact ⟨Tl, Bk, z, Xl, pl, fl, cl⟩
    | succ r ih =>
      intro i hi z hz Tl Bk Xl pl fl cl
      have all := X0.warmed.alike.symm.trans Xl.warmed.alike
      have hAl := hA0.keep all (pl.other hne hA0.1)
      have hBk := hB0.like all pl.1 fl.1 fl.2.1 fl.2.2.1
      have hlt : q + i < Bk.slots.size := by rw [fl.2.2.1]; omega
      have c3 : Steps p.tables e below (s₁.setTop (entryFrame m #[.ref b, .int (Int32.ofNat o), .ref d, .int (Int32.ofNat q), .int (Int32.ofNat len)] 7)) (Tl.setTop (mkF m 12 #[.val (.ref b), .val (.int (Int32.ofNat (o + i))), .val (.ref d), .val (.int (Int32.ofNat (q + i))), .val (.int (Int32.ofNat len)), .val (.int (Int32.ofNat i)), z] [.int (Int32.ofNat (o + i)), .ref b])) := cl.trans (by
        refine XS.iload Xl.here hexec rfl (hb hbytes d3) rfl ?_
        refine XS.iload Xl.here hexec rfl (hb hbytes d5) rfl ?_
        refine XS.icmpNo Xl.here hexec rfl (hb hbytes d7) rfl (ii_ge_f (lt32 (by omega) (by omega))) ?_
        refine XS.aloadN Xl.here hexec rfl (hb hbytes d10) rfl rfl ?_
        refine XS.iloadN Xl.here hexec rfl (hb hbytes d11) rfl ?_
        exact Steps.refl _)
      have c4 : Steps p.tables e below (s₁.setTop (entryFrame m #[.ref b, .int (Int32.ofNat o), .ref d, .int (Int32.ofNat q), .int (Int32.ofNat len)] 7)) (Tl.setTop (mkF m 13 #[.val (.ref b), .val (.int (Int32.ofNat (o + i))), .val (.ref d), .val (.int (Int32.ofNat (q + i))), .val (.int (Int32.ofNat len)), .val (.int (Int32.ofNat i)), z] [.int (cv A (o + i))])) := c3.trans (by
        refine Xl.aget hexec hAl rfl (hA.get (i := o + i) (by omega)) rfl rfl (hb hbytes d12) ?_
        exact Steps.refl _)
      have c5 : Steps p.tables e below (s₁.setTop (entryFrame m #[.ref b, .int (Int32.ofNat o), .ref d, .int (Int32.ofNat q), .int (Int32.ofNat len)] 7)) (Tl.setTop (mkF m 15 #[.val (.ref b), .val (.int (Int32.ofNat (o + i))), .val (.ref d), .val (.int (Int32.ofNat (q + i))), .val (.int (Int32.ofNat len)), .val (.int (Int32.ofNat i)), .val (.int (cv A (o + i)))] [])) := c4.trans (by
        refine XS.istoreS Xl.here hexec rfl (hb hbytes d13) rfl rfl hz ?_
        exact Steps.refl _)
      have c6 : Steps p.tables e below (s₁.setTop (entryFrame m #[.ref b, .int (Int32.ofNat o), .ref d, .int (Int32.ofNat q), .int (Int32.ofNat len)] 7)) (Tl.setTop (mkF m 31 #[.val (.ref b), .val (.int (Int32.ofNat (o + i))), .val (.ref d), .val (.int (Int32.ofNat (q + i))), .val (.int (Int32.ofNat len)), .val (.int (Int32.ofNat i)), .val (.int (cv A (o + i)))] [.int (lo8 (cv A (o + i))), .int (Int32.ofNat (q + i)), .ref d])) := c5.trans (by
        refine XS.iload Xl.here hexec rfl (hb hbytes d15) rfl ?_
        refine sipushV Xl.here hexec rfl 255 (hb hbytes d17) (by decide) ?_
        refine XS.icmpYes Xl.here hexec rfl (pc0 := 20) rfl (hb hbytes d20) rfl (ii_le_t (hp i (by omega))) (by decide) rfl ?_
        refine XS.aloadN Xl.here hexec rfl (hb hbytes d26) rfl rfl ?_
        refine XS.iloadN Xl.here hexec rfl (hb hbytes d27) rfl ?_
        refine XS.iload Xl.here hexec rfl (hb hbytes d28) rfl ?_
        refine i2b Xl.here hexec rfl (hb hbytes d30) rfl ?_
        exact Steps.refl _)
      obtain ⟨T7, X7, p7, st7⟩ := Xl.aput hexec hBk rfl hlt rfl (fits_lo8 (cv A (o + i))) (g := (mkF m 31 #[.val (.ref b), .val (.int (Int32.ofNat (o + i))), .val (.ref d), .val (.int (Int32.ofNat (q + i))), .val (.int (Int32.ofNat len)), .val (.int (Int32.ofNat i)), .val (.int (cv A (o + i)))] [.int (lo8 (cv A (o + i))), .int (Int32.ofNat (q + i)), .ref d])) rfl (rest := []) rfl (hb hbytes d31)
      have c8 : Steps p.tables e below (s₁.setTop (entryFrame m #[.ref b, .int (Int32.ofNat o), .ref d, .int (Int32.ofNat q), .int (Int32.ofNat len)] 7)) (T7.setTop (mkF m 32 #[.val (.ref b), .val (.int (Int32.ofNat (o + i))), .val (.ref d), .val (.int (Int32.ofNat (q + i))), .val (.int (Int32.ofNat len)), .val (.int (Int32.ofNat i)), .val (.int (cv A (o + i)))] [])) := c6.trans (st7 _ (Steps.refl _))
      have c9 : Steps p.tables e below (s₁.setTop (entryFrame m #[.ref b, .int (Int32.ofNat o), .ref d, .int (Int32.ofNat q), .int (Int32.ofNat len)] 7)) (T7.setTop (mkF m 3 #[.val (.ref b), .val (.int (Int32.ofNat (o + i) + 1)), .val (.ref d), .val (.int (Int32.ofNat (q + i) + 1)), .val (.int (Int32.ofNat len)), .val (.int (Int32.ofNat i + 1)), .val (.int (cv A (o + i)))] [])) := c8.trans (by
        refine iincV X7.here hexec rfl 1 (hb hbytes d32) (by decide) rfl rfl ?_
        refine iincV X7.here hexec rfl 1 (hb hbytes d35) (by decide) rfl rfl ?_
        refine iincV X7.here hexec rfl 1 (hb hbytes d38) (by decide) rfl rfl ?_
        refine XS.goto X7.here hexec rfl (pc0 := 41) rfl (hb hbytes d41) (by decide) rfl ?_
        exact Steps.refl _)
      have c10 : Steps p.tables e below (s₁.setTop (entryFrame m #[.ref b, .int (Int32.ofNat o), .ref d, .int (Int32.ofNat q), .int (Int32.ofNat len)] 7)) (T7.setTop (mkF m 3 #[.val (.ref b), .val (.int (Int32.ofNat (o + (i + 1)))), .val (.ref d), .val (.int (Int32.ofNat (q + (i + 1)))), .val (.int (Int32.ofNat len)), .val (.int (Int32.ofNat (i + 1))), .val (.int (cv A (o + i)))] [])) := by
        have := c9
        rw [succ32, succ32, succ32] at this
        exact this
      exact ih (i + 1) (by omega) _ (Or.inr ⟨_, rfl, rfl⟩) T7 _ (by rw [copyLocs_step, ← List.append_assoc]; exact X7) (pl.trans p7) (fl.step (by omega) hlt (by simp)) c10
  obtain ⟨T9, B9, z9, X9, p9, f9, g9⟩ := loop len 0 (by omega) .unset (Or.inl rfl) s₁ B (by simpa [copyLocs] using X0) ⟨hB0.1, fun _ _ => rfl, rfl⟩ (Laid.zero _ _ _) c2
  have c11 : Steps p.tables e below (s₁.setTop (entryFrame m #[.ref b, .int (Int32.ofNat o), .ref d, .int (Int32.ofNat q), .int (Int32.ofNat len)] 7)) (T9.setTop (mkF m 46 #[.val (.ref b), .val (.int (Int32.ofNat (o + len))), .val (.ref d), .val (.int (Int32.ofNat (q + len))), .val (.int (Int32.ofNat len)), .val (.int (Int32.ofNat len)), z9] [.int (Int32.ofNat len)])) := g9.trans (by
    refine XS.iload X9.here hexec rfl (hb hbytes d3) rfl ?_
    refine XS.iload X9.here hexec rfl (hb hbytes d5) rfl ?_
    refine XS.icmpYes X9.here hexec rfl (pc0 := 7) rfl (hb hbytes d7) rfl (ii_ge_t (nlt32 (by omega) (Nat.le_refl _))) (by decide) rfl ?_
    refine XS.iload X9.here hexec rfl (hb hbytes d44) rfl ?_
    exact Steps.refl _)
  exact ⟨T9, some (.int (Int32.ofNat len)), _, _, _, X9, by simp, rfl, rfl, (fun h => by cases h), ⟨rfl, B9, p9.from hh0, f9⟩, fun fs hl => c11.trans (X9.ireturnOut hexec hret rfl (Or.inl rfl) (hb hbytes d46) hl)⟩
end Cmp5
namespace Cmp3
def yN : MethodName := ⟨"java/lang/StringUTF16", "compress", "([CII)[B"⟩
abbrev yB : ByteArray := jdk_52_method_16_code
theorem d0 : decode yB 0 = .ok (.iload_n 2, 1) := by decide +kernel
theorem d1 : decode yB 1 = .ok (.newarray .byte, 2) := by decide +kernel
theorem d3 : decode yB 3 = .ok (.astore_n 3, 1) := by decide +kernel
theorem d4 : decode yB 4 = .ok (.aload_n 0, 1) := by decide +kernel
theorem d5 : decode yB 5 = .ok (.iload_n 1, 1) := by decide +kernel
theorem d6 : decode yB 6 = .ok (.aload_n 3, 1) := by decide +kernel
theorem d7 : decode yB 7 = .ok (.iconst 0, 1) := by decide +kernel
theorem d8 : decode yB 8 = .ok (.iload_n 2, 1) := by decide +kernel
theorem d9 : decode yB 9 = .ok (.invokestatic 115, 3) := by decide +kernel
theorem d12 : decode yB 12 = .ok (.istore 4, 2) := by decide +kernel
theorem d14 : decode yB 14 = .ok (.iload 4, 2) := by decide +kernel
theorem d16 : decode yB 16 = .ok (.iload_n 2, 1) := by decide +kernel
theorem d17 : decode yB 17 = .ok (.if_icmp (.eq) 40, 3) := by decide +kernel
theorem d57 : decode yB 57 = .ok (.aload_n 3, 1) := by decide +kernel
theorem d58 : decode yB 58 = .ok (.areturn, 1) := by decide +kernel
def site : List Cond := [.arrayClass .byte, Cmp5.tab] ++ staticW U16 115 Cmp5.yN
def tab : Cond := tabOf yN yB 6 (some (.array .byte)) site
def P (b : Addr) (A : Cell) (o len : Nat) (args : Array Value) (s : State) : Prop := args = #[.ref b, .int (Int32.ofNat o), .int (Int32.ofNat len)] ∧ Ch b A s ∧ o + len ≤ A.slots.size ∧ len ≤ 536870912 ∧ ∀ i, i < len → ¬ 255 < cv A (o + i)
def E (b : Addr) (A : Cell) (o len : Nat) (r : Option Value) (s u : State) : Prop := NewArr .byte "[B" len (fun j => .int (lo8 (cv A (o + j)))) r s u ∧ u.heap.size = s.heap.size + 1
/-- no char of the range above 255: a new byte[] of their low bytes -/
theorem law (l : Launch) (b : Addr) (A : Cell) (o len : Nat) : Law l yN 3 3 1 18 yB 6 (some (.array .byte)) site (P b A o len) (E b A o len) [] 1 len := by
  refine Law.of_walk (plainFor_of_name (by decide +kernel)) (by decide +kernel) (by decide +kernel) (by decide) (fun _ _ h => by rw [h.1]; rfl) (fun _ U U' hal hh h => ⟨h.1, h.2.1.mv hal hh, h.2.2⟩) (fun r U U' V V' h1 hal h2 h => ⟨NewArr.mv r U U' V V' h1 hal h2 h.1, by rw [h1, h2]; exact h.2⟩) ?_
  intro p e s m args below meth c s₁ X0 hexec hbytes hml hret hlk hnm hown hh0 W hP
  obtain ⟨rfl, hA, l1, l2, hp⟩ := hP
  have a31 := hA.1.2.2.2
  have c1 : Steps p.tables e below (s₁.setTop (entryFrame m #[.ref b, .int (Int32.ofNat o), .int (Int32.ofNat len)] 6)) (s₁.setTop (mkF m 0 #[.val (.ref b), .val (.int (Int32.ofNat o)), .val (.int (Int32.ofNat len)), .unset, .unset, .unset] [])) := entry rfl
  have c2 : Steps p.tables e below (s₁.setTop (entryFrame m #[.ref b, .int (Int32.ofNat o), .int (Int32.ofNat len)] 6)) (s₁.setTop (mkF m 1 #[.val (.ref b), .val (.int (Int32.ofNat o)), .val (.int (Int32.ofNat len)), .unset, .unset, .unset] [.int (Int32.ofNat len)])) := c1.trans (by
    refine XS.iloadN X0.here hexec rfl (hb hbytes d0) rfl ?_
    exact Steps.refl _)
  obtain ⟨T3, B3, X3, ba3, bs3, bv3, bh3, bf3, st3⟩ := X0.anew hexec (atype := .byte) (wk W (.arrayClass .byte)) rfl (by show len * 1 ≤ _; omega) (by omega) (g := (mkF m 1 #[.val (.ref b), .val (.int (Int32.ofNat o)), .val (.int (Int32.ofNat len)), .unset, .unset, .unset] [.int (Int32.ofNat len)])) rfl (hb hbytes d1) (rest := []) rfl (Nat.le_refl _) (by show 0 + len ≤ len; omega)
  rw [hh0] at ba3 st3
  have kp3 : XT.Kept s T3 := (XT.Kept.of_eq hh0).push bh3
  have hA3 := hA.keep X3.warmed.alike (kp3 _ _ hA.1.1)
  have hne : b ≠ s.heap.size := hA.1.ne
  have c4 : Steps p.tables e below (s₁.setTop (entryFrame m #[.ref b, .int (Int32.ofNat o), .int (Int32.ofNat len)] 6)) (T3.setTop (mkF m 3 #[.val (.ref b), .val (.int (Int32.ofNat o)), .val (.int (Int32.ofNat len)), .unset, .unset, .unset] [.ref s.heap.size])) := c2.trans (st3 _ (Steps.refl _))
  have c5 : Steps p.tables e below (s₁.setTop (entryFrame m #[.ref b, .int (Int32.ofNat o), .int (Int32.ofNat len)] 6)) (T3.setTop (mkF m 9 #[.val (.ref b), .val (.int (Int32.ofNat o)), .val (.int (Int32.ofNat len)), .val (.ref s.heap.size), .unset, .unset] [.int (Int32.ofNat len), .int 0, .ref s.heap.size, .int (Int32.ofNat o), .ref b])) := c4.trans (by
    refine XS.astoreN X3.here hexec rfl (hb hbytes d3) rfl rfl rfl ?_
    refine XS.aloadN X3.here hexec rfl (hb hbytes d4) rfl rfl ?_
    refine XS.iloadN X3.here hexec rfl (hb hbytes d5) rfl ?_
    refine XS.aloadN X3.here hexec rfl (hb hbytes d6) rfl rfl ?_
    refine iconstV X3.here hexec rfl 0 (hb hbytes d7) (by decide) ?_
    refine XS.iloadN X3.here hexec rfl (hb hbytes d8) rfl ?_
    exact Steps.refl _)
  obtain ⟨v6, T6, X6, E6, g6⟩ := X3.callS hexec (Cmp5.law l b A s.heap.size B3 o 0 len) hown (wks W (staticW U16 115 Cmp5.yN)) (wk W Cmp5.tab) (W := 0) (Nat.le_of_ble_eq_true rfl) (Nat.le_of_ble_eq_true rfl) (Nat.le_refl _) (by show 0 + len + 0 ≤ len; omega) (g := (mkF m 9 #[.val (.ref b), .val (.int (Int32.ofNat o)), .val (.int (Int32.ofNat len)), .val (.ref s.heap.size), .unset, .unset] [.int (Int32.ofNat len), .int (Int32.ofNat 0), .ref s.heap.size, .int (Int32.ofNat o), .ref b])) rfl (by rw [hml]; rfl) c5 (argsL := [.ref b, .int (Int32.ofNat o), .ref s.heap.size, .int (Int32.ofNat 0), .int (Int32.ofNat len)]) (rest := []) rfl rfl (by show 2 * 0 + 0 ≤ _; decide) (hb hbytes d9) (⟨rfl, hA3, ba3, hne, l1, by rw [bs3]; simp, hp⟩)
  obtain ⟨rfl, B6, p6, f6⟩ := E6
  have c7 : Steps p.tables e below (s₁.setTop (entryFrame m #[.ref b, .int (Int32.ofNat o), .int (Int32.ofNat len)] 6)) (T6.setTop (mkF m 12 #[.val (.ref b), .val (.int (Int32.ofNat o)), .val (.int (Int32.ofNat len)), .val (.ref s.heap.size), .unset, .unset] [.int (Int32.ofNat len)])) := g6
  have c8 : Steps p.tables e below (s₁.setTop (entryFrame m #[.ref b, .int (Int32.ofNat o), .int (Int32.ofNat len)] 6)) (T6.setTop (mkF m 58 #[.val (.ref b), .val (.int (Int32.ofNat o)), .val (.int (Int32.ofNat len)), .val (.ref s.heap.size), .val (.int (Int32.ofNat len)), .unset] [.ref s.heap.size])) := c7.trans (by
    refine XS.istore X6.here hexec rfl (hb hbytes d12) rfl rfl ?_
    refine XS.iload X6.here hexec rfl (hb hbytes d14) rfl ?_
    refine XS.iloadN X6.here hexec rfl (hb hbytes d16) rfl ?_
    refine XS.icmpYes X6.here hexec rfl (pc0 := 17) rfl (hb hbytes d17) rfl (ii_eq_t rfl) (by decide) rfl ?_
    refine XS.aloadN X6.here hexec rfl (hb hbytes d57) rfl rfl ?_
    exact Steps.refl _)
  have X8 := X6.wide (L' := []) (cells' := 1) (slots' := len) (fun x hx hlt => by
    simp only [List.nil_append, copyLocs, List.mem_map, List.mem_range] at hx
    obtain ⟨i, -, rfl⟩ := hx
    exact absurd hlt (Nat.lt_irrefl _)) (Nat.le_refl _) (by omega)
  exact ⟨T6, some (.ref s.heap.size), _, _, _, X8, rfl, rfl, rfl, (fun h => by cases h), ⟨⟨rfl, B6, ba3.like (X3.warmed.alike.symm.trans X6.warmed.alike) p6.1 f6.1 f6.2.1 f6.2.2.1, f6.2.1.trans bv3, by rw [X6.warmed.alike.findClass, f6.1]; exact bf3, by rw [f6.2.2.1, bs3]; simp, fun j hj => by rw [f6.2.2.2 j, if_pos (by omega)]; rfl, kp3.put p6 (Nat.le_refl _)⟩, by rw [p6.2.2, bh3, hh0]; simp⟩, fun fs hl => c8.trans (X8.areturnOut hexec rfl hret rfl (hb hbytes d58) hl)⟩
end Cmp3
namespace CodL
def yN : MethodName := ⟨"java/lang/StringUTF16", "coderFromArrayLen", "([BI)B"⟩
abbrev yB : ByteArray := jdk_52_method_15_code
theorem d0 : decode yB 0 = .ok (.iload_n 1, 1) := by decide +kernel
theorem d1 : decode yB 1 = .ok (.aload_n 0, 1) := by decide +kernel
theorem d2 : decode yB 2 = .ok (.arraylength, 1) := by decide +kernel
theorem d3 : decode yB 3 = .ok (.isub, 1) := by decide +kernel
theorem d4 : decode yB 4 = .ok (.bipush 31, 2) := by decide +kernel
theorem d6 : decode yB 6 = .ok (.iushr, 1) := by decide +kernel
theorem d7 : decode yB 7 = .ok (.i2b, 1) := by decide +kernel
theorem d8 : decode yB 8 = .ok (.ireturn, 1) := by decide +kernel
def site : List Cond := []
def tab : Cond := tabOf yN yB 2 (some .byte) site
def P (d : Addr) (B : Cell) (args : Array Value) (s : State) : Prop := args = #[.ref d, .int (Int32.ofNat B.slots.size)] ∧ Arr .byte d B s
def E (r : Option Value) (s u : State) : Prop := XT.PureE (some (.int 0)) r s u
/-- an array as long as the number of chars: LATIN1 -/
theorem law (l : Launch) (d : Addr) (B : Cell) : Law l yN 2 2 0 0 yB 2 (some .byte) site (P d B) E [] 0 0 := by
  refine Law.of_walk (plainFor_of_name (by decide +kernel)) (by decide +kernel) (by decide +kernel) (by decide) (fun _ _ h => by rw [h.1]; rfl) (fun _ U U' hal hh h => ⟨h.1, h.2.mv hal hh⟩) (fun r U U' V V' h1 hal h2 h => XT.PureE.mv r U U' V V' h1 hal h2 h) ?_
  intro p e s m args below meth c s₁ X0 hexec hbytes hml hret hlk hnm hown hh0 W hP
  obtain ⟨rfl, hB⟩ := hP
  have hB0 := hB.mv X0.warmed.alike hh0
  have c1 : Steps p.tables e below (s₁.setTop (entryFrame m #[.ref d, .int (Int32.ofNat B.slots.size)] 2)) (s₁.setTop (mkF m 0 #[.val (.ref d), .val (.int (Int32.ofNat B.slots.size))] [])) := entry rfl
  have c2 : Steps p.tables e below (s₁.setTop (entryFrame m #[.ref d, .int (Int32.ofNat B.slots.size)] 2)) (s₁.setTop (mkF m 2 #[.val (.ref d), .val (.int (Int32.ofNat B.slots.size))] [.ref d, .int (Int32.ofNat B.slots.size)])) := c1.trans (by
    refine XS.iloadN X0.here hexec rfl (hb hbytes d0) rfl ?_
    refine XS.aloadN X0.here hexec rfl (hb hbytes d1) rfl rfl ?_
    exact Steps.refl _)
  have c3 : Steps p.tables e below (s₁.setTop (entryFrame m #[.ref d, .int (Int32.ofNat B.slots.size)] 2)) (s₁.setTop (mkF m 8 #[.val (.ref d), .val (.int (Int32.ofNat B.slots.size))] [.int (lo8 (ushr (Int32.ofNat B.slots.size - Int32.ofNat B.slots.size) 31))])) := c2.trans (by
    refine X0.alen hexec hB0 rfl rfl (hb hbytes d2) ?_
    refine XS.isub X0.here hexec rfl (hb hbytes d3) rfl ?_
    refine bipushV X0.here hexec rfl 31 (hb hbytes d4) (by decide) ?_
    refine iushr X0.here hexec rfl (hb hbytes d6) rfl ?_
    refine i2b X0.here hexec rfl (hb hbytes d7) rfl ?_
    exact Steps.refl _)
  have e0 : lo8 (ushr (Int32.ofNat B.slots.size - Int32.ofNat B.slots.size) 31) = 0 := by rw [Int32.sub_self]; decide
  rw [e0] at c3
  exact ⟨s₁, some (.int 0), _, _, _, X0, rfl, rfl, rfl, (fun h => by cases h), ⟨rfl, hh0⟩, fun fs hl => c3.trans (X0.ireturnOut hexec hret rfl (Or.inr (Or.inr (Or.inl rfl))) (hb hbytes d8) hl)⟩
end CodL
/-- the String at a is Latin-1 over a new byte[] (the heap's one new cell): the low bytes of the len chars of A from o on; every cell but a is kept -/
def Got (a : Addr) (D : Cell) (fV fC : Field) (A : Cell) (o len : Nat) (r : Option Value) (s u : State) : Prop := r = none ∧ ∃ D' V : Cell, Blank "java/lang/String" a D' u ∧ Same D D' [fV.slot, fC.slot] ∧ D'.slots[fV.slot]? = some (.ref s.heap.size) ∧ D'.slots[fC.slot]? = some (.int 0) ∧ Arr .byte s.heap.size V u ∧ V.vm = .none ∧ u.vm.findClass "[B" = some V.cls ∧ V.slots.size = len ∧ (∀ j, j < len → V.slots[j]? = some (.int (lo8 (cv A (o + j))))) ∧ (∀ (y : Addr) (c : Cell), y ≠ a → s.heap[y]? = some c → u.heap[y]? = some c) ∧ u.heap.size = s.heap.size + 1
theorem Got.mv {a : Addr} {D A : Cell} {fV fC : Field} {o len : Nat} : ∀ r (U U' V V' : State), U'.heap = U.heap → V.vm.Alike V'.vm → V'.heap = V.heap → Got a D fV fC A o len r U V → Got a D fV fC A o len r U' V' :=
  fun r U U' V V' h1 hal h2 ⟨e0, D', X, a1, a2, a3, a4, a5, a6, a7, a8, a9, a10, a11⟩ => ⟨e0, D', X, a1.mv hal h2, a2, by rw [h1]; exact a3, a4, by rw [h1]; exact a5.mv hal h2, a6, by rw [hal.findClass]; exact a7, a8, a9, by rw [h1, h2]; exact a10, by rw [h1, h2]; exact a11⟩
namespace New4
def yN : MethodName := ⟨"java/lang/String", "<init>", "([CIILjava/lang/Void;)V"⟩
abbrev yB : ByteArray := jdk_42_method_149_code
theorem d0 : decode yB 0 = .ok (.aload_n 0, 1) := by decide +kernel
theorem d1 : decode yB 1 = .ok (.invokespecial 1, 3) := by decide +kernel
theorem d4 : decode yB 4 = .ok (.iload_n 3, 1) := by decide +kernel
theorem d5 : decode yB 5 = .ok (.ifCond (.ne) 22, 3) := by decide +kernel
theorem d27 : decode yB 27 = .ok (.getstatic 38, 3) := by decide +kernel
theorem d30 : decode yB 30 = .ok (.ifCond (.eq) 28, 3) := by decide +kernel
theorem d33 : decode yB 33 = .ok (.aload_n 1, 1) := by decide +kernel
theorem d34 : decode yB 34 = .ok (.iload_n 2, 1) := by decide +kernel
theorem d35 : decode yB 35 = .ok (.iload_n 3, 1) := by decide +kernel
theorem d36 : decode yB 36 = .ok (.invokestatic 177, 3) := by decide +kernel
theorem d39 : decode yB 39 = .ok (.astore 5, 2) := by decide +kernel
theorem d41 : decode yB 41 = .ok (.aload_n 0, 1) := by decide +kernel
theorem d42 : decode yB 42 = .ok (.aload 5, 2) := by decide +kernel
theorem d44 : decode yB 44 = .ok (.iload_n 3, 1) := by decide +kernel
theorem d45 : decode yB 45 = .ok (.invokestatic 47, 3) := by decide +kernel
theorem d48 : decode yB 48 = .ok (.putfield 15, 3) := by decide +kernel
theorem d51 : decode yB 51 = .ok (.aload_n 0, 1) := by decide +kernel
theorem d52 : decode yB 52 = .ok (.aload 5, 2) := by decide +kernel
theorem d54 : decode yB 54 = .ok (.putfield 9, 3) := by decide +kernel
theorem d57 : decode yB 57 = .ok (.return_, 1) := by decide +kernel
def site : List Cond := [.fieldLink "java/lang/String" 38 "java/lang/String" "COMPACT_STRINGS" "Z", Cmp3.tab, CodL.tab, .laysFinal "java/lang/String" "java/lang/String" "value" "[B", .fieldLink "java/lang/String" 9 "java/lang/String" "value" "[B", .laysFinal "java/lang/String" "java/lang/String" "coder" "B", .fieldLink "java/lang/String" 15 "java/lang/String" "coder" "B"] ++ objW "java/lang/String" 1 ++ staticW "java/lang/String" 177 Cmp3.yN ++ staticW "java/lang/String" 47 CodL.yN
def tab : Cond := tabOf yN yB 6 none site
def P (a : Addr) (D : Cell) (fV fC : Field) (b : Addr) (A : Cell) (z : Int32) (o len : Nat) (args : Array Value) (s : State) : Prop := args = #[.ref a, .ref b, .int (Int32.ofNat o), .int (Int32.ofNat len), .null] ∧ Blank "java/lang/String" a D s ∧ Found "java/lang/String" "value" "[B" fV s ∧ Found "java/lang/String" "coder" "B" fC s ∧ Ch b A s ∧ StaticIs s "java/lang/String" "COMPACT_STRINGS" "Z" (.int z) ∧ ¬ z = 0 ∧ 0 < len ∧ o + len ≤ A.slots.size ∧ len ≤ 536870912 ∧ ∀ i, i < len → ¬ 255 < cv A (o + i)
def E (a : Addr) (D : Cell) (fV fC : Field) (A : Cell) (o len : Nat) (r : Option Value) (s u : State) : Prop := Got a D fV fC A o len r s u
/-- len > 0, no char of the range above 255: a Latin-1 String of their low bytes -/
theorem law (l : Launch) (a : Addr) (D : Cell) (fV fC : Field) (b : Addr) (A : Cell) (z : Int32) (o len : Nat) : Law l yN 5 4 2 35 yB 6 none site (P a D fV fC b A z o len) (E a D fV fC A o len) [⟨a, fC.slot⟩, ⟨a, fV.slot⟩] 1 len := by
  refine Law.of_walk (plainFor_of_name (by decide +kernel)) (by decide +kernel) (by decide +kernel) (by decide) (fun _ _ h => by rw [h.1]; rfl) (fun _ U U' hal hh h => ⟨h.1, h.2.1.mv hal hh, h.2.2.1.al hal, h.2.2.2.1.al hal, h.2.2.2.2.1.mv hal hh, h.2.2.2.2.2.1.there hal hh, h.2.2.2.2.2.2⟩) (fun r U U' V V' h1 hal h2 h => Got.mv r U U' V V' h1 hal h2 h) ?_
  intro p e s m args below meth c s₁ X0 hexec hbytes hml hret hlk hnm hown hh0 W hP
  obtain ⟨rfl, hB, f1, f2, hA, s1, hz, l0, l1, l2, hp⟩ := hP
  have a31 := hA.1.2.2.2
  have c1 : Steps p.tables e below (s₁.setTop (entryFrame m #[.ref a, .ref b, .int (Int32.ofNat o), .int (Int32.ofNat len), .null] 6)) (s₁.setTop (mkF m 0 #[.val (.ref a), .val (.ref b), .val (.int (Int32.ofNat o)), .val (.int (Int32.ofNat len)), .val .null, .unset] [])) := entry rfl
  have c2 : Steps p.tables e below (s₁.setTop (entryFrame m #[.ref a, .ref b, .int (Int32.ofNat o), .int (Int32.ofNat len), .null] 6)) (s₁.setTop (mkF m 1 #[.val (.ref a), .val (.ref b), .val (.int (Int32.ofNat o)), .val (.int (Int32.ofNat len)), .val .null, .unset] [.ref a])) := c1.trans (by
    refine XS.aloadN X0.here hexec rfl (hb hbytes d0) rfl rfl ?_
    exact Steps.refl _)
  obtain ⟨T3, X3, q3, st3⟩ := X0.oinit hexec hown (wks W (objW "java/lang/String" 1)) (g := (mkF m 1 #[.val (.ref a), .val (.ref b), .val (.int (Int32.ofNat o)), .val (.int (Int32.ofNat len)), .val .null, .unset] [.ref a])) rfl (by rw [hml]; rfl) (rest := []) rfl (hb hbytes d1) (W := 0) (by show 2 * 0 + 0 ≤ _; decide) (Nat.le_of_ble_eq_true rfl) (Nat.le_of_ble_eq_true rfl)
  have hh3 := q3.trans hh0
  have c4 : Steps p.tables e below (s₁.setTop (entryFrame m #[.ref a, .ref b, .int (Int32.ofNat o), .int (Int32.ofNat len), .null] 6)) (T3.setTop (mkF m 27 #[.val (.ref a), .val (.ref b), .val (.int (Int32.ofNat o)), .val (.int (Int32.ofNat len)), .val .null, .unset] [])) := (c2.trans (st3 _ (Steps.refl _))).trans (by
    refine XS.iloadN X3.here hexec rfl (hb hbytes d4) rfl ?_
    refine XS.ifYes X3.here hexec rfl (pc0 := 5) rfl (hb hbytes d5) rfl (i0_ne_t (nz32 (by omega) l0)) (by decide) rfl ?_
    exact Steps.refl _)
  obtain ⟨T5, X5, q5, st5⟩ := X3.sget hexec hown (wk W (.fieldLink "java/lang/String" 38 "java/lang/String" "COMPACT_STRINGS" "Z")) s1 (fun _ _ h => by rw [hh3]; exact h) (g := (mkF m 27 #[.val (.ref a), .val (.ref b), .val (.int (Int32.ofNat o)), .val (.int (Int32.ofNat len)), .val .null, .unset] [])) rfl (hb hbytes d27)
  have hh5 := q5.trans hh3
  have c6 : Steps p.tables e below (s₁.setTop (entryFrame m #[.ref a, .ref b, .int (Int32.ofNat o), .int (Int32.ofNat len), .null] 6)) (T5.setTop (mkF m 30 #[.val (.ref a), .val (.ref b), .val (.int (Int32.ofNat o)), .val (.int (Int32.ofNat len)), .val .null, .unset] [.int z])) := c4.trans (st5 _ (Steps.refl _))
  have c7 : Steps p.tables e below (s₁.setTop (entryFrame m #[.ref a, .ref b, .int (Int32.ofNat o), .int (Int32.ofNat len), .null] 6)) (T5.setTop (mkF m 36 #[.val (.ref a), .val (.ref b), .val (.int (Int32.ofNat o)), .val (.int (Int32.ofNat len)), .val .null, .unset] [.int (Int32.ofNat len), .int (Int32.ofNat o), .ref b])) := c6.trans (by
    refine XS.ifNo X5.here hexec rfl (hb hbytes d30) rfl (i0_eq_f hz) ?_
    refine XS.aloadN X5.here hexec rfl (hb hbytes d33) rfl rfl ?_
    refine XS.iloadN X5.here hexec rfl (hb hbytes d34) rfl ?_
    refine XS.iloadN X5.here hexec rfl (hb hbytes d35) rfl ?_
    exact Steps.refl _)
  obtain ⟨v8, T8, X8, E8, g8⟩ := X5.callS hexec (Cmp3.law l b A o len) hown (wks W (staticW "java/lang/String" 177 Cmp3.yN)) (wk W Cmp3.tab) (W := 0) (Nat.le_of_ble_eq_true rfl) (Nat.le_of_ble_eq_true rfl) (Nat.le_refl _) (by show 0 + len ≤ len; omega) (g := (mkF m 36 #[.val (.ref a), .val (.ref b), .val (.int (Int32.ofNat o)), .val (.int (Int32.ofNat len)), .val .null, .unset] [.int (Int32.ofNat len), .int (Int32.ofNat o), .ref b])) rfl (by rw [hml]; rfl) c7 (argsL := [.ref b, .int (Int32.ofNat o), .int (Int32.ofNat len)]) (rest := []) rfl rfl (by show 2 * 0 + 0 ≤ _; decide) (hb hbytes d36) (⟨rfl, hA.mv X5.warmed.alike hh5, l1, l2, hp⟩)
  obtain ⟨e8, z8⟩ := E8
  obtain ⟨rfl, N, n1, n2, n3, n4, n5, n6⟩ := NewArr.mv _ T5 s _ _ hh5.symm (Vm.Alike.refl _) rfl e8
  rw [hh5] at z8
  have hB1 := hB.keep X8.warmed.alike (n6 _ _ hB.1)
  have hne : s.heap.size ≠ a := (Nat.ne_of_lt (Array.getElem?_eq_some_iff.mp hB.1).1).symm
  have c9 : Steps p.tables e below (s₁.setTop (entryFrame m #[.ref a, .ref b, .int (Int32.ofNat o), .int (Int32.ofNat len), .null] 6)) (T8.setTop (mkF m 39 #[.val (.ref a), .val (.ref b), .val (.int (Int32.ofNat o)), .val (.int (Int32.ofNat len)), .val .null, .unset] [.ref s.heap.size])) := g8
  have c10 : Steps p.tables e below (s₁.setTop (entryFrame m #[.ref a, .ref b, .int (Int32.ofNat o), .int (Int32.ofNat len), .null] 6)) (T8.setTop (mkF m 45 #[.val (.ref a), .val (.ref b), .val (.int (Int32.ofNat o)), .val (.int (Int32.ofNat len)), .val .null, .val (.ref s.heap.size)] [.int (Int32.ofNat N.slots.size), .ref s.heap.size, .ref a])) := by
    have hc : Steps p.tables e below (s₁.setTop (entryFrame m #[.ref a, .ref b, .int (Int32.ofNat o), .int (Int32.ofNat len), .null] 6)) (T8.setTop (mkF m 45 #[.val (.ref a), .val (.ref b), .val (.int (Int32.ofNat o)), .val (.int (Int32.ofNat len)), .val .null, .val (.ref s.heap.size)] [.int (Int32.ofNat len), .ref s.heap.size, .ref a])) := c9.trans (by
      refine XS.astore X8.here hexec rfl (hb hbytes d39) rfl rfl rfl ?_
      refine XS.aloadN X8.here hexec rfl (hb hbytes d41) rfl rfl ?_
      refine XS.aload X8.here hexec rfl (hb hbytes d42) rfl rfl ?_
      refine XS.iloadN X8.here hexec rfl (hb hbytes d44) rfl ?_
      exact Steps.refl _)
    rw [n4]; exact hc
  obtain ⟨v11, T11, X11, E11, g11⟩ := X8.callS hexec (CodL.law l s.heap.size N) hown (wks W (staticW "java/lang/String" 47 CodL.yN)) (wk W CodL.tab) (W := 1) (Nat.le_of_ble_eq_true rfl) (Nat.le_of_ble_eq_true rfl) (Nat.le_refl _) (by show 0 + len + 0 ≤ len; omega) (g := (mkF m 45 #[.val (.ref a), .val (.ref b), .val (.int (Int32.ofNat o)), .val (.int (Int32.ofNat len)), .val .null, .val (.ref s.heap.size)] [.int (Int32.ofNat N.slots.size), .ref s.heap.size, .ref a])) rfl (by rw [hml]; rfl) c10 (argsL := [.ref s.heap.size, .int (Int32.ofNat N.slots.size)]) (rest := [.ref a]) rfl rfl (by show 2 * 0 + (1 + 0) ≤ _; decide) (hb hbytes d45) (⟨rfl, n1⟩)
  obtain ⟨rfl, q11⟩ := E11
  have hB11 := hB1.mv (X8.warmed.alike.symm.trans X11.warmed.alike) q11
  have c12 : Steps p.tables e below (s₁.setTop (entryFrame m #[.ref a, .ref b, .int (Int32.ofNat o), .int (Int32.ofNat len), .null] 6)) (T11.setTop (mkF m 48 #[.val (.ref a), .val (.ref b), .val (.int (Int32.ofNat o)), .val (.int (Int32.ofNat len)), .val .null, .val (.ref s.heap.size)] [.int 0, .ref a])) := g11
  obtain ⟨T13, X13, p13, bl13, sl13, st13⟩ := X11.finit hexec hown (wk W (.fieldLink "java/lang/String" 15 "java/lang/String" "coder" "B")) (Or.inr ⟨_, (wk W (.laysFinal "java/lang/String" "java/lang/String" "coder" "B"))⟩) (Or.inl ⟨rfl, hnm⟩) f2 (Or.inl rfl) hB11 (t := .byte) (by decide +kernel) rfl (g := (mkF m 48 #[.val (.ref a), .val (.ref b), .val (.int (Int32.ofNat o)), .val (.int (Int32.ofNat len)), .val .null, .val (.ref s.heap.size)] [.int 0, .ref a])) rfl (rest := []) rfl (hb hbytes d48)
  have c14 : Steps p.tables e below (s₁.setTop (entryFrame m #[.ref a, .ref b, .int (Int32.ofNat o), .int (Int32.ofNat len), .null] 6)) (T13.setTop (mkF m 54 #[.val (.ref a), .val (.ref b), .val (.int (Int32.ofNat o)), .val (.int (Int32.ofNat len)), .val .null, .val (.ref s.heap.size)] [.ref s.heap.size, .ref a])) := (c12.trans (st13 _ (Steps.refl _))).trans (by
    refine XS.aloadN X13.here hexec rfl (hb hbytes d51) rfl rfl ?_
    refine XS.aload X13.here hexec rfl (hb hbytes d52) rfl rfl ?_
    exact Steps.refl _)
  obtain ⟨T15, X15, p15, bl15, sl15, st15⟩ := X13.finit hexec hown (wk W (.fieldLink "java/lang/String" 9 "java/lang/String" "value" "[B")) (Or.inr ⟨_, (wk W (.laysFinal "java/lang/String" "java/lang/String" "value" "[B"))⟩) (Or.inl ⟨rfl, hnm⟩) f1 (Or.inl rfl) bl13 (t := (.array .byte)) (by decide +kernel) rfl (g := (mkF m 54 #[.val (.ref a), .val (.ref b), .val (.int (Int32.ofNat o)), .val (.int (Int32.ofNat len)), .val .null, .val (.ref s.heap.size)] [.ref s.heap.size, .ref a])) rfl (rest := []) rfl (hb hbytes d54)
  have c16 : Steps p.tables e below (s₁.setTop (entryFrame m #[.ref a, .ref b, .int (Int32.ofNat o), .int (Int32.ofNat len), .null] 6)) (T15.setTop (mkF m 57 #[.val (.ref a), .val (.ref b), .val (.int (Int32.ofNat o)), .val (.int (Int32.ofNat len)), .val .null, .val (.ref s.heap.size)] [])) := c14.trans (st15 _ (Steps.refl _))
  have ap := apart (Or.inr ⟨_, (wk W (.laysFinal "java/lang/String" "java/lang/String" "value" "[B"))⟩) (Or.inr ⟨_, (wk W (.laysFinal "java/lang/String" "java/lang/String" "coder" "B"))⟩) f1 f2 (t₁ := .array .byte) (t₂ := .byte) (by decide +kernel) (by decide +kernel) (by decide)
  have al := X8.warmed.alike.symm.trans X15.warmed.alike
  have n7 : T11.heap[s.heap.size]? = some N := by rw [q11]; exact n1.1
  exact ⟨T15, none, _, _, _, X15, by simp, rfl, by omega, (fun _ => rfl), ⟨rfl, _, N, bl15, ((Same.refl D _).set _ (by simp)).set _ (by simp), sl15, (Cell.slots_setSlot_ne _ ap).trans sl13, n1.keep al (p15.other hne (p13.other hne n7)), n2, by rw [al.findClass]; exact n3, n4, n5, fun y c h1 h2 => p15.other h1 (p13.other h1 (by rw [q11]; exact n6 y c h2)), by rw [p15.2.2, p13.2.2, q11]; exact z8⟩, fun fs hl => c16.trans (X15.returnOut hexec hret (hb hbytes d57) hl)⟩
end New4
namespace New1
def yN : MethodName := ⟨"java/lang/String", "<init>", "([C)V"⟩
abbrev yB : ByteArray := jdk_42_method_3_code
theorem d0 : decode yB 0 = .ok (.aload_n 0, 1) := by decide +kernel
theorem d1 : decode yB 1 = .ok (.aload_n 1, 1) := by decide +kernel
theorem d2 : decode yB 2 = .ok (.iconst 0, 1) := by decide +kernel
theorem d3 : decode yB 3 = .ok (.aload_n 1, 1) := by decide +kernel
theorem d4 : decode yB 4 = .ok (.arraylength, 1) := by decide +kernel
theorem d5 : decode yB 5 = .ok (.aconst_null, 1) := by decide +kernel
theorem d6 : decode yB 6 = .ok (.invokespecial 27, 3) := by decide +kernel
theorem d9 : decode yB 9 = .ok (.return_, 1) := by decide +kernel
def site : List Cond := [New4.tab] ++ initW "java/lang/String" 27 New4.yN
def tab : Cond := tabOf yN yB 2 none site
def P (a : Addr) (D : Cell) (fV fC : Field) (b : Addr) (A : Cell) (z : Int32) (args : Array Value) (s : State) : Prop := args = #[.ref a, .ref b] ∧ Blank "java/lang/String" a D s ∧ Found "java/lang/String" "value" "[B" fV s ∧ Found "java/lang/String" "coder" "B" fC s ∧ Ch b A s ∧ StaticIs s "java/lang/String" "COMPACT_STRINGS" "Z" (.int z) ∧ ¬ z = 0 ∧ 0 < A.slots.size ∧ A.slots.size ≤ 536870912 ∧ ∀ i, i < A.slots.size → ¬ 255 < cv A i
def E (a : Addr) (D : Cell) (fV fC : Field) (A : Cell) (r : Option Value) (s u : State) : Prop := Got a D fV fC A 0 A.slots.size r s u
/-- new String(chars), not empty, no char above 255: a Latin-1 String of their low bytes -/
theorem law (l : Launch) (a : Addr) (D : Cell) (fV fC : Field) (b : Addr) (A : Cell) (z : Int32) : Law l yN 2 1 3 52 yB 2 none site (P a D fV fC b A z) (E a D fV fC A) [⟨a, fC.slot⟩, ⟨a, fV.slot⟩] 1 A.slots.size := by
  refine Law.of_walk (plainFor_of_name (by decide +kernel)) (by decide +kernel) (by decide +kernel) (by decide) (fun _ _ h => by rw [h.1]; rfl) (fun _ U U' hal hh h => ⟨h.1, h.2.1.mv hal hh, h.2.2.1.al hal, h.2.2.2.1.al hal, h.2.2.2.2.1.mv hal hh, h.2.2.2.2.2.1.there hal hh, h.2.2.2.2.2.2⟩) (fun r U U' V V' h1 hal h2 h => Got.mv r U U' V V' h1 hal h2 h) ?_
  intro p e s m args below meth c s₁ X0 hexec hbytes hml hret hlk hnm hown hh0 W hP
  obtain ⟨rfl, hB, f1, f2, hA, s1, hz, l0, l2, hp⟩ := hP
  have c1 : Steps p.tables e below (s₁.setTop (entryFrame m #[.ref a, .ref b] 2)) (s₁.setTop (mkF m 0 #[.val (.ref a), .val (.ref b)] [])) := entry rfl
  have c2 : Steps p.tables e below (s₁.setTop (entryFrame m #[.ref a, .ref b] 2)) (s₁.setTop (mkF m 6 #[.val (.ref a), .val (.ref b)] [.null, .int (Int32.ofNat A.slots.size), .int 0, .ref b, .ref a])) := c1.trans (by
    refine XS.aloadN X0.here hexec rfl (hb hbytes d0) rfl rfl ?_
    refine XS.aloadN X0.here hexec rfl (hb hbytes d1) rfl rfl ?_
    refine iconstV X0.here hexec rfl 0 (hb hbytes d2) (by decide) ?_
    refine XS.aloadN X0.here hexec rfl (hb hbytes d3) rfl rfl ?_
    refine X0.alen hexec (hA.1.mv X0.warmed.alike hh0) rfl rfl (hb hbytes d4) ?_
    refine XS.aconstNull X0.here hexec rfl (hb hbytes d5) ?_
    exact Steps.refl _)
  obtain ⟨v3, T3, X3, E3, g3⟩ := X0.callN hexec (New4.law l a D fV fC b A z 0 A.slots.size) rfl hown (wks W (initW "java/lang/String" 27 New4.yN)) (W New4.tab (by simp only [site, List.mem_cons, List.mem_append, true_or, or_true])) (W := 0) (Nat.le_of_ble_eq_true rfl) (Nat.le_of_ble_eq_true rfl) (Nat.le_refl _) (by show 0 + A.slots.size ≤ A.slots.size; omega) (g := (mkF m 6 #[.val (.ref a), .val (.ref b)] [.null, .int (Int32.ofNat A.slots.size), .int (Int32.ofNat 0), .ref b, .ref a])) rfl (by rw [hml]; rfl) c2 (argsL := [.ref b, .int (Int32.ofNat 0), .int (Int32.ofNat A.slots.size), .null]) (rest := []) rfl rfl (by show 2 * 0 + 0 ≤ _; decide) (hb hbytes d6) (⟨rfl, hB.mv X0.warmed.alike hh0, f1.al X0.warmed.alike, f2.al X0.warmed.alike, hA.mv X0.warmed.alike hh0, s1.there X0.warmed.alike hh0, hz, l0, by omega, l2, fun i hi => by rw [Nat.zero_add]; exact hp i hi⟩)
  have e0 := Got.mv _ s₁ s _ _ hh0.symm (Vm.Alike.refl _) rfl E3
  obtain rfl := e0.1
  have c4 : Steps p.tables e below (s₁.setTop (entryFrame m #[.ref a, .ref b] 2)) (T3.setTop (mkF m 9 #[.val (.ref a), .val (.ref b)] [])) := g3
  exact ⟨T3, none, _, _, _, X3, by simp, rfl, by omega, (fun _ => rfl), e0, fun fs hl => c4.trans (X3.returnOut hexec hret (hb hbytes d9) hl)⟩
theorem pays {l : Launch} {R : Room} {p : Program} {e : Env} {below : List Frame} {s : State} {sargs : Array Value} {len W : Nat} (a : Addr) (D : Cell) (fV fC : Field) (b : Addr) (A : Cell) (z : Int32) (htab : tab.before sargs s = true) (hfr : 4 ≤ R.frames) (hlo : W + 65 ≤ R.locals) :
    Back l R p e below s sargs yN len W (fun A₁ a₁ => A₁.cells + 1 ≤ R.cells ∧ A₁.slots + A.slots.size ≤ R.slots ∧ P a D fV fC b A z a₁ A₁.U) (fun A₁ _ v₁ B₁ => E a D fV fC A v₁ A₁.U B₁.U ∧ B₁.locs = A₁.locs ++ [⟨a, fC.slot⟩, ⟨a, fV.slot⟩] ∧ B₁.cells = A₁.cells + 1 ∧ B₁.slots = A₁.slots + A.slots.size) :=
  (law l a D fV fC b A z).pays htab hfr (by omega)
end New1
/-- the byte, read back as charAt reads it, is the char -/
theorem lo8_mask {x : Int32} (h0 : ¬ x < 0) (h1 : ¬ 255 < x) : lo8 x &&& 255 = x := by
  have t : ∀ k : Fin 256, lo8 (Int32.ofNat k.val) &&& 255 = Int32.ofNat k.val := by decide +kernel
  rw [Int32.lt_iff_toInt_lt] at h0 h1
  have e0 : (0 : Int32).toInt = 0 := rfl
  have e1 : (255 : Int32).toInt = 255 := rfl
  obtain ⟨k, hk⟩ : ∃ k : Nat, x.toInt = k := ⟨x.toInt.toNat, by omega⟩
  have hx : x = Int32.ofNat k := Int32.toInt_inj.mp (by rw [hk, Int32.toInt_ofNat_small (by omega)])
  rw [hx]
  exact t ⟨k, by omega⟩
end StrChars
namespace StrChars.Road
open Jvm Sem ClassFile Op Lib Jvm.Stand Jvm.Free Jvm.Free.XT
open Jvm.Lib.Cold (StaticIs)
abbrev ST : String := "java/lang/String"
/-- every table word that New1's law asks, flat -/
abbrev words : List Jvm.Cond := [.code New1.yN New1.yB 2 none, .initialized ST, .methodLink ST 27 New4.yN, .instanceMethod New4.yN,
  .code New4.yN New4.yB 6 none, .fieldLink ST 38 ST "COMPACT_STRINGS" "Z", .laysFinal ST ST "value" "[B", .fieldLink ST 9 ST "value" "[B", .laysFinal ST ST "coder" "B", .fieldLink ST 15 ST "coder" "B",
  .methodLink ST 1 Lib.objectInit, .instanceMethod Lib.objectInit, .code Lib.objectInit ⟨#[0xb1]⟩ 1 none, .methodLink ST 177 Cmp3.yN, .static Cmp3.yN, .methodLink ST 47 CodL.yN, .static CodL.yN,
  .code Cmp3.yN Cmp3.yB 6 (some (.array .byte)), .initialized U16, .arrayClass .byte, .methodLink U16 115 Cmp5.yN, .static Cmp5.yN, .code Cmp5.yN Cmp5.yB 7 (some .int), .code CodL.yN CodL.yB 2 (some .byte)]
theorem tab_of {a : Array Value} {s : State} (h : ∀ w ∈ words, w.before a s = true) : New1.tab.before a s = true := by
  have h5 : Cmp5.tab.before a s = true := unparts (wk h (.code Cmp5.yN Cmp5.yB 7 (some .int))) (wks h (.initialized Cmp5.yN.cls :: Cmp5.site))
  have hc : CodL.tab.before a s = true := unparts (wk h (.code CodL.yN CodL.yB 2 (some .byte))) (wks h (.initialized CodL.yN.cls :: CodL.site))
  have q5 : ∀ w ∈ Cmp5.tab :: words, w.before a s = true := fun w hw => (List.mem_cons.mp hw).elim (fun e => e ▸ h5) (h w)
  have h3 : Cmp3.tab.before a s = true := unparts (wk q5 (.code Cmp3.yN Cmp3.yB 6 (some (.array .byte)))) (wks q5 (.initialized Cmp3.yN.cls :: Cmp3.site))
  have q3 : ∀ w ∈ Cmp3.tab :: CodL.tab :: words, w.before a s = true := fun w hw => (List.mem_cons.mp hw).elim (fun e => e ▸ h3) fun hw => (List.mem_cons.mp hw).elim (fun e => e ▸ hc) (h w)
  have h4 : New4.tab.before a s = true := unparts (wk q3 (.code New4.yN New4.yB 6 none)) (wks q3 (.initialized New4.yN.cls :: New4.site))
  have q4 : ∀ w ∈ New4.tab :: words, w.before a s = true := fun w hw => (List.mem_cons.mp hw).elim (fun e => e ▸ h4) (h w)
  exact unparts (wk q4 (.code New1.yN New1.yB 2 none)) (wks q4 (.initialized New1.yN.cls :: New1.site))
/-- the words ride from the start Z to the walk's own state -/
theorem moved {Z s : State} {a0 args : Array Value} (hZ : Z.Warmed39 s.vm) (hw : ∀ d ∈ words, d.before a0 Z = true) : ∀ d ∈ words, d.before args s = true := fun d hd => by
  have q := hw d hd
  have t : ∀ d ∈ words, d = .arrayClass .byte ∨ (d.onTables && d.keepsFace) = true := by decide +kernel
  rcases t d hd with rfl | t
  · exact RoadKit.mvA hZ q
  · exact RoadKit.mv hZ q t
/-- WHAT COMES BACK, over the tables of the start Z: h the heap at the call, h' behind it -/
def Q (Z : State) (x : Addr) (A : Cell) (h : Heap) (v : Option Value) (h' : Heap) (L : List Loc) : Prop := v = none ∧ (∀ y ∈ L, y.base = x) ∧ RoadKit.Keep h h' [x] ∧ h'.size = h.size + 1 ∧ RoadKit.Exa Z h' x ST ∧ RoadKit.Fld Z h' x ST "value" "[B" (.ref h.size) ∧ RoadKit.Fld Z h' x ST "coder" "B" (.int 0) ∧
  (∃ V : Cell, RoadKit.Arr Z h' h.size V .byte ∧ V.vm = .none ∧ Z.vm.findClass "[B" = some V.cls ∧ V.slots.size = A.slots.size ∧ ∀ j, j < A.slots.size → V.slots[j]? = some (.int (lo8 (cv A j)))) ∧
  ∀ (O n d : String) (w : Value), RoadKit.Fld Z h x O n d w → RoadKit.slotOf Z O n d ≠ RoadKit.slotOf Z ST "value" "[B" → RoadKit.slotOf Z O n d ≠ RoadKit.slotOf Z ST "coder" "B" → RoadKit.Fld Z h' x O n d w
/-- **new String(chars) AT A CALL, IN THE ROAD'S FORM**: for specialBack behind newO: x the fresh String, b the char[] with the cell A -/
theorem back {p : Program} {l : Launch} {e : Env} {R : Room} {s : State} {args : Array Value} {below : List Frame} {len W : Nat} {Z : State} {a0 : Array Value} {h : Heap} (hZ : Z.Warmed39 s.vm) (hw : ∀ d ∈ words, d.before a0 Z = true) {kI : Nat} (wi : (Jvm.Cond.instantiable ST kI).before a0 Z = true)
    {x b : Addr} {A : Cell} {z : Int32} {v0 c0 : Value} (E : RoadKit.Exa Z h x ST) (V : RoadKit.Fld Z h x ST "value" "[B" v0) (C : RoadKit.Fld Z h x ST "coder" "B" c0) (K : RoadKit.Arr Z h b A .char) (hty : Typed .char A) (S : RoadKit.Sta Z h ST "COMPACT_STRINGS" "Z" (.int z)) (hz : ¬ z = 0)
    (l0 : 0 < A.slots.size) (l2 : A.slots.size ≤ 536870912) (hp : ∀ i, i < A.slots.size → ¬ 255 < cv A i) (hfr : 4 ≤ R.frames) (hlo : W + 65 ≤ R.locals) :
    Back l R p e below s args New1.yN len W (fun P a => a = #[.ref x, .ref b] ∧ P.U.heap = h ∧ P.cells + 1 ≤ R.cells ∧ P.slots + A.slots.size ≤ R.slots)
      (fun P _ v B => ∃ L, Q Z x A h v B.U.heap L ∧ B.locs = P.locs ++ L ∧ B.cells = P.cells + 1 ∧ B.slots = P.slots + A.slots.size) := by
  intro m meth c P g ig mk a X hg hsize hdg hW hn hp'
  obtain ⟨rfl, rfl, r1, r2⟩ := hp'
  have al : Z.vm.Alike P.U.vm := hZ.alike.trans X.warmed.alike
  obtain ⟨D, cfV, kV, iV, fV, hD, gV, stV, knV, obV, asV, slV⟩ := id V
  obtain ⟨D', cfC, kC, iC, fC, hD', gC, stC, -, -, asC, slC⟩ := id C
  cases hD.symm.trans hD'
  obtain ⟨D2, kD, e1, e2, e3, e4, e5⟩ := id E
  cases hD.symm.trans e1
  obtain ⟨c2, k2, i1, i2, i3, -⟩ := Cond.instantiable_spec wi
  cases e2.symm.trans i1
  cases e3.symm.trans i2
  obtain ⟨kU, u1, u2⟩ := al.2.2 _ _ e3
  have hB : Blank ST x D P.U := ⟨hD, ⟨knV, fun q hq => by rw [hq] at obV; cases obV⟩, by rw [al.findClass]; exact e2, kU, u1, by rw [u2]; exact i3, by rw [u2]; exact e5 i3⟩
  have F1 : Found ST "value" "[B" fV P.U := ⟨SBG.found_only al ⟨cfV, kV, iV, gV⟩, stV⟩
  have F2 : Found ST "coder" "B" fC P.U := ⟨SBG.found_only al ⟨cfC, kC, iC, gC⟩, stC⟩
  have hA : Ch b A P.U := ⟨⟨K.1, State.isArrayOf_alike al K.2.1, K.2.2, by omega⟩, hty⟩
  have hS : StaticIs P.U ST "COMPACT_STRINGS" "Z" (.int z) := by
    obtain ⟨cfS, iS, kS, fS, st, cS, t1, t2, t3, t4, t5, t6, t7⟩ := S
    exact StaticIs.there (s := { Z with heap := P.U.heap }) ⟨cfS, iS, kS, fS, st, cS, t1, t2, t3, t4, t5, (fun q => by rw [q] at t6; cases t6), t7⟩ al rfl
  obtain ⟨v, B, X', ⟨⟨hv, E', V', q1, q2, q3, q4, q5, q6, q7, q8, q9, q10, q11⟩, hl, hc, hs⟩, st⟩ := New1.pays x D fV fC b A z (tab_of (moved hZ hw)) hfr hlo m meth c P g ig mk _ X hg hsize hdg hW hn ⟨r1, r2, rfl, hB, F1, F2, hA, hS, hz, l0, l2, hp⟩
  have al' : Z.vm.Alike B.U.vm := hZ.alike.trans X'.warmed.alike
  have hsz : E'.slots.size = D.slots.size := by
    obtain ⟨-, -, -, kB, w1, w2, w3⟩ := q1
    obtain ⟨kB', y1, y2⟩ := al'.2.2 _ _ e3
    rw [q2.2.1] at w1
    cases w1.symm.trans y1
    rw [w3, e5 i3, y2]
  refine ⟨v, B, X', ⟨_, ⟨hv, ?_, ⟨by omega, fun y cy hy hn' => q10 y cy (by simpa using hn') hy, fun y cy hy => ?_⟩, q11, ⟨E', _, q1.1, by rw [q2.2.1]; exact e2, by rw [q2.2.1]; exact e3, by rw [q2.1]; exact obV, fun _ => by rw [hsz]; exact e5 i3⟩,
    ⟨E', cfV, kV, iV, fV, q1.1, gV, stV, by rw [q2.1]; exact knV, by rw [q2.1]; exact obV, by rw [q2.2.1]; exact asV, q3⟩, ⟨E', cfC, kC, iC, fC, q1.1, gC, stC, by rw [q2.1]; exact knV, by rw [q2.1]; exact obV, by rw [q2.2.1]; exact asC, q4⟩,
    ⟨V', ⟨q5.1, State.isArrayOf_alike al'.symm q5.2.1, q5.2.2.1⟩, q6, by rw [← al'.findClass]; exact q7, q8, fun j hj => by have := q9 j hj; rwa [Nat.zero_add] at this⟩, fun O n d w F n1 n2 => ?_⟩, hl, hc, hs⟩, st⟩
  · intro y hy
    simp only [List.mem_cons, List.not_mem_nil, or_false] at hy
    rcases hy with rfl | rfl <;> rfl
  · by_cases q : y = x
    · subst q
      cases hD.symm.trans hy
      exact ⟨E', q1.1, q2.2.1, q2.1, hsz⟩
    · exact ⟨cy, q10 y cy q hy, rfl, rfl, rfl⟩
  · obtain ⟨D3, cf, k, i, f, g1, g2, g3, g4, g5, g6, g7⟩ := F
    cases hD.symm.trans g1
    simp only [RoadKit.slotOf, g2, gV, gC, Option.map_some, Option.getD_some] at n1 n2
    exact ⟨E', cf, k, i, f, q1.1, g2, g3, by rw [q2.1]; exact g4, by rw [q2.1]; exact g5, by rw [q2.2.1]; exact g6, by rw [q2.2.2 f.slot (by simp [n1, n2])]; exact g7⟩
end StrChars.Road
namespace StrChars.Road
open Jvm Sem ClassFile Op Lib Jvm.Stand Jvm.Free Jvm.Free.XT
/-- WHAT COMES BACK, the byte[] as a list of values -/
def QA (Z : State) (x : Addr) (zn : Int32) (cs : List Int32) (h : Heap) (v : Option Value) (h' : Heap) (L : List Loc) : Prop := v = none ∧ (∀ y ∈ L, y.base = x) ∧ RoadKit.Keep h h' [x] ∧ h'.size = h.size + 1 ∧ RoadKit.Exa Z h' x ST ∧ RoadKit.Fld Z h' x ST "value" "[B" (.ref h.size) ∧ RoadKit.Fld Z h' x ST "coder" "B" (.int 0) ∧
  (∃ kb, Z.vm.findClass "[B" = some kb ∧ RoadKit.Arv Z h' h.size kb .byte zn (cs.map fun c => .int (lo8 c)) (.int 0)) ∧
  ∀ (O n d : String) (w : Value), RoadKit.Fld Z h x O n d w → RoadKit.slotOf Z O n d ≠ RoadKit.slotOf Z ST "value" "[B" → RoadKit.slotOf Z O n d ≠ RoadKit.slotOf Z ST "coder" "B" → RoadKit.Fld Z h' x O n d w
/-- **new String(chars) AT A CALL, THE ARRAYS AS LISTS**: the char[] at b holds cs, not empty, no char above 255 -/
theorem backArv {p : Program} {l : Launch} {e : Env} {R : Room} {s : State} {args : Array Value} {below : List Frame} {len W : Nat} {Z : State} {a0 : Array Value} {h : Heap} (hZ : Z.Warmed39 s.vm) (hw : ∀ d ∈ words, d.before a0 Z = true) {kI : Nat} (wi : (Jvm.Cond.instantiable ST kI).before a0 Z = true)
    {x b : Addr} {k : ClassId} {zn z : Int32} {cs : List Int32} {dv v0 c0 : Value} (E : RoadKit.Exa Z h x ST) (V : RoadKit.Fld Z h x ST "value" "[B" v0) (C : RoadKit.Fld Z h x ST "coder" "B" c0) (K : RoadKit.Arv Z h b k .char zn (cs.map Value.int) dv) (S : RoadKit.Sta Z h ST "COMPACT_STRINGS" "Z" (.int z)) (hz : ¬ z = 0)
    (hlen : zn.toNatClampNeg = cs.length) (h0 : 0 < cs.length) (hbig : cs.length ≤ 536870912) (hall : ∀ c ∈ cs, ¬ 255 < c) (hfr : 4 ≤ R.frames) (hlo : W + 65 ≤ R.locals) :
    Back l R p e below s args New1.yN len W (fun P a => a = #[.ref x, .ref b] ∧ P.U.heap = h ∧ P.cells + 1 ≤ R.cells ∧ P.slots + cs.length ≤ R.slots)
      (fun P _ v B => ∃ L, QA Z x zn cs h v B.U.heap L ∧ B.locs = P.locs ++ L ∧ B.cells = P.cells + 1 ∧ B.slots = P.slots + cs.length) := by
  obtain ⟨A, K1, K2, K3, K4, K5, K6⟩ := K
  have e : A.slots.size = cs.length := K3.trans hlen
  have hat : ∀ (i : Nat) (hi : i < cs.length), A.slots[i]? = some (.int cs[i]) := fun i hi => by rw [K5 i (by omega)]; simp [List.getD_eq_getElem?_getD, hi]
  have hcv : ∀ (i : Nat) (hi : i < cs.length), cv A i = cs[i] := fun i hi => by unfold cv; rw [hat i hi]
  have hty : Typed .char A := fun i v hv => by
    have hi : i < A.slots.size := (Array.getElem?_eq_some_iff.mp hv).1
    have q := K5 i hi
    rw [hv] at q
    rw [Option.some.inj q]
    exact K6 i hi
  refine Back.mono (back hZ hw wi E V C K1 hty S hz (by omega) (by omega) (fun i hi => by rw [hcv i (by omega)]; exact hall _ (List.getElem_mem _)) hfr hlo) (fun P a hp => ⟨hp.1, hp.2.1, hp.2.2.1, by rw [e]; exact hp.2.2.2⟩) (fun P a v B hp hq => ?_)
  obtain ⟨L, ⟨q1, q2, q3, q4, q5, q6, q7, ⟨V', v1, v2, v3, v4, v5⟩, q9⟩, hl, hc, hs⟩ := hq
  refine ⟨L, ⟨q1, q2, q3, q4, q5, q6, q7, ⟨V'.cls, v3, V', v1, rfl, by rw [v4, e, hlen], K4, fun i hi => ?_, fun i hi => ?_⟩, q9⟩, hl, hc, by rw [hs, e]⟩
  · have hi' : i < cs.length := by omega
    rw [v5 i (by omega), hcv i hi']; simp [List.getD_eq_getElem?_getD, hi']
  · have hi' : i < cs.length := by omega
    simp only [List.getD_eq_getElem?_getD, List.getElem?_map, List.getElem?_eq_getElem hi', Option.map_some, Option.getD_some]
    exact fits_lo8 _
end StrChars.Road
namespace StrChars.Road
open Jvm Sem ClassFile Op Lib Jvm.Stand Jvm.Free Jvm.Free.XT
/-- WHAT COMES BACK, in the writer's own shape -/
def QV (Z : State) (x : Addr) (N : Int32) (bs : List Int32) (h : Heap) (n0 : Nat) (v : Option Value) (h' : Heap) (L : List Loc) : Prop := v = none ∧ RoadKit.Fr n0 L ∧ RoadKit.Keep h h' [x] ∧ RoadKit.Exa Z h' x ST ∧ RoadKit.Fld Z h' x ST "coder" "B" (.int 0) ∧
  ∃ (t : Addr) (kb : ClassId), n0 ≤ t ∧ h.size ≤ t ∧ ¬ t = x ∧ RoadKit.Fld Z h' x ST "value" "[B" (.ref t) ∧ RoadKit.Arv Z h' t kb .byte N (bs.map Value.int) (.int 0)
/-- **new String(chars) AT A CALL, FOR THE WRITER**: a char[] of n known ints, each 0 to 255 -/
theorem backV {p : Program} {l : Launch} {e : Env} {R : Room} {s : State} {args : Array Value} {below : List Frame} {len W : Nat} {Z : State} {a0 : Array Value} {h : Heap} (hZ : Z.Warmed39 s.vm) (hw : ∀ d ∈ words, d.before a0 Z = true) {kI : Nat} (wi : (Jvm.Cond.instantiable ST kI).before a0 Z = true)
    {x b : Addr} {kC : ClassId} {cs bs : List Int32} {d v0 c0 : Value} {z N : Int32} {n n0 : Nat} (hx0 : n0 ≤ x) (hh0 : n0 ≤ h.size) (E : RoadKit.Exa Z h x ST) (V : RoadKit.Fld Z h x ST "value" "[B" v0) (C : RoadKit.Fld Z h x ST "coder" "B" c0) (K : RoadKit.Arv Z h b kC .char N (cs.map Value.int) d) (S : RoadKit.Sta Z h ST "COMPACT_STRINGS" "Z" (.int z)) (hz : ¬ z = 0)
    (hn : cs.length = n) (hN : N = Int32.ofNat n) (l0 : 0 < n) (l2 : n ≤ 4000) (hp : ∀ c ∈ cs, ¬ c < 0 ∧ ¬ (255 : Int32) < c) (hb : bs = cs.map (fun c => c.toInt8.toInt32)) (hfr : 4 ≤ R.frames) (hlo : W + 65 ≤ R.locals) :
    Back l R p e below s args (⟨"java/lang/String", "<init>", "([C)V"⟩ : MethodName) len W (fun P a => a = #[.ref x, .ref b] ∧ P.U.heap = h ∧ P.cells + 1 ≤ R.cells ∧ P.slots + n ≤ R.slots)
      (fun P _ v B => ∃ L, QV Z x N bs h n0 v B.U.heap L ∧ B.locs = P.locs ++ L ∧ B.cells = P.cells + 1 ∧ B.slots = P.slots + n) := by
  subst hn hN hb
  refine Back.mono (backArv hZ hw wi E V C K S hz (n32 (by omega)) l0 (by omega) (fun c hc => (hp c hc).2) hfr hlo) (fun P a hp => hp) (fun P a v B hp hq => ?_)
  obtain ⟨L, ⟨q1, q2, q3, q4, q5, q6, q7, ⟨kb, v1, v2⟩, q9⟩, hl, hc, hs⟩ := hq
  exact ⟨L, ⟨q1, fun y hy => by rw [q2 y hy]; exact hx0, q3, q5, q7, h.size, kb, hh0, Nat.le_refl _, Nat.ne_of_gt E.lt, q6, by rw [List.map_map]; exact v2⟩, hl, hc, hs⟩
end StrChars.Road
namespace StrChars
open Jvm Sem ClassFile Op Lib Jvm.Stand Jvm.Free.XT Jvm.Free.ALB Jvm.Free.JM Jvm.Free
open Jvm.Lib.Cold (StaticIs)
def hi8 (x : Int32) : Int32 := lo8 (x >>> ((8 : Int32) &&& 31))
/-- what StringUTF16.getChar makes of two bytes -/
def pairCh (u v : Int32) : Int32 := (((u &&& 255) <<< ((0 : Int32) &&& 31)) ||| ((v &&& 255) <<< ((8 : Int32) &&& 31))).toUInt32.toUInt16.toUInt32.toInt32
theorem shr0 (c : Int32) : c >>> ((0 : Int32) &&& 31) = c := by
  have e : ((0 : Int32) &&& 31) = 0 := by decide
  rw [e]
  apply Int32.toBitVec_inj.mp
  rw [Int32.toBitVec_shiftRight]
  have e1 : ((0 : Int32).toBitVec.smod 32) = 0#32 := by decide
  rw [e1, BitVec.sshiftRight_eq']
  exact BitVec.sshiftRight_zero
theorem lo8_and (x : Int32) : (lo8 x &&& 255).toBitVec.toNat = x.toBitVec.toNat % 256 := by
  have h : (lo8 x).toBitVec = (x.toBitVec.signExtend 8).signExtend 32 := by rw [lo8, Int8.toBitVec_toInt32, Int32.toBitVec_toInt8]
  rw [Int32.toBitVec_and, BitVec.toNat_and, h]
  have e : ((x.toBitVec.signExtend 8).signExtend 32).toNat % 256 = x.toBitVec.toNat % 256 := by
    rw [BitVec.toNat_signExtend]
    have hlt := x.toBitVec.isLt
    simp only [BitVec.toNat_setWidth, BitVec.toNat_signExtend]
    split <;> split <;> omega
  rw [← e]
  exact Nat.and_two_pow_sub_one_eq_mod _ 8
theorem pair_says {c : Int32} (h0 : ¬ c < 0) (h1 : ¬ 65535 < c) : pairCh (lo8 c) (hi8 c) = c := by
  rw [Int32.lt_iff_toInt_lt] at h0 h1
  have e0 : (0 : Int32).toInt = 0 := rfl
  have e1 : (65535 : Int32).toInt = 65535 := rfl
  have hc : c.toInt = c.toBitVec.toNat := by
    have := c.toBitVec.isLt
    have e : c.toInt = c.toBitVec.toInt := rfl
    rw [e] at h0 h1
    rw [e]
    rw [BitVec.toInt_eq_toNat_cond] at h0 h1 ⊢
    split at h0 <;> split <;> omega
  have hn : c.toBitVec.toNat < 65536 := by omega
  have a1 := lo8_and c
  have a2 : (hi8 c &&& 255).toBitVec.toNat = c.toBitVec.toNat / 256 := by
    rw [hi8, lo8_and]
    have e : ((8 : Int32) &&& 31) = 8 := by decide
    rw [e, Int32.toBitVec_shiftRight]
    have e2 : ((8 : Int32).toBitVec.smod 32) = 8#32 := by decide
    rw [e2, BitVec.sshiftRight_eq', BitVec.toNat_sshiftRight_of_msb_false (by rw [BitVec.msb_eq_false_iff_two_mul_lt]; omega)]
    show c.toBitVec.toNat >>> 8 % 256 = _
    rw [Nat.shiftRight_eq_div_pow]
    omega
  unfold pairCh
  apply Int32.toBitVec_inj.mp
  apply BitVec.eq_of_toNat_eq
  have f0 : ((0 : Int32) &&& 31) = 0 := by decide
  have f8 : ((8 : Int32) &&& 31) = 8 := by decide
  rw [f0, f8]
  have g : (((lo8 c &&& 255) <<< (0 : Int32)) ||| ((hi8 c &&& 255) <<< (8 : Int32))).toBitVec.toNat = c.toBitVec.toNat := by
    rw [Int32.toBitVec_or, Int32.toBitVec_shiftLeft, Int32.toBitVec_shiftLeft]
    have s0 : ((0 : Int32).toBitVec.smod 32) = 0#32 := by decide
    have s8 : ((8 : Int32).toBitVec.smod 32) = 8#32 := by decide
    rw [s0, s8, BitVec.toNat_or]
    simp only [BitVec.shiftLeft_eq', BitVec.toNat_shiftLeft, a1, a2]
    show (c.toBitVec.toNat % 256) <<< 0 % 2 ^ 32 ||| (c.toBitVec.toNat / 256) <<< 8 % 2 ^ 32 = _
    rw [Nat.shiftLeft_zero, Nat.mod_eq_of_lt (show c.toBitVec.toNat % 256 < 2 ^ 32 by omega), Nat.mod_eq_of_lt (show (c.toBitVec.toNat / 256) <<< 8 < 2 ^ 32 by rw [Nat.shiftLeft_eq]; omega), Nat.or_comm, ← Nat.shiftLeft_add_eq_or_of_lt (by omega), Nat.shiftLeft_eq]
    omega
  show BitVec.toNat (((((lo8 c &&& 255) <<< (0 : Int32)) ||| ((hi8 c &&& 255) <<< (8 : Int32))).toBitVec.setWidth 16).setWidth 32) = _
  rw [BitVec.toNat_setWidth, BitVec.toNat_setWidth, g]
  omega
end StrChars
namespace StrChars
open Jvm Sem ClassFile Op Lib Jvm.Stand Jvm.Free.XT Jvm.Free.ALB Jvm.Free.JM Jvm.Free
open Jvm.Lib.Cold (StaticIs)
theorem shr1 {n : Nat} (h : 2 * n < 2 ^ 31) : Int32.ofNat (2 * n) >>> ((1 : Int32) &&& 31) = Int32.ofNat n := by
  have e : ((1 : Int32) &&& 31) = 1 := by decide
  rw [e]
  apply Int32.toBitVec_inj.mp
  rw [Int32.toBitVec_shiftRight]
  have e1 : ((1 : Int32).toBitVec.smod 32) = 1#32 := by decide
  have hm : (BitVec.ofNat 32 (2 * n)).toNat = 2 * n := by rw [BitVec.toNat_ofNat, Nat.mod_eq_of_lt (by omega)]
  rw [e1, BitVec.sshiftRight_eq']
  apply BitVec.eq_of_toNat_eq
  show ((BitVec.ofNat 32 (2 * n)).sshiftRight 1).toNat = (BitVec.ofNat 32 n).toNat
  rw [BitVec.toNat_sshiftRight_of_msb_false (by rw [BitVec.msb_eq_false_iff_two_mul_lt, hm]; omega), hm, BitVec.toNat_ofNat, Nat.shiftRight_eq_div_pow]
  omega
/-- charAt's cast of a byte read back -/
def chr8 (u : Int32) : Int32 := (u &&& 255).toUInt32.toUInt16.toUInt32.toInt32
theorem chr8_lo8 {c : Int32} (h0 : ¬ c < 0) (h1 : ¬ 255 < c) : chr8 (lo8 c) = c := by
  have t : ∀ k : Fin 256, (Int32.ofNat k.val).toUInt32.toUInt16.toUInt32.toInt32 = Int32.ofNat k.val := by decide +kernel
  unfold chr8
  rw [lo8_mask h0 h1]
  rw [Int32.lt_iff_toInt_lt] at h0 h1
  have e0 : (0 : Int32).toInt = 0 := rfl
  have e1 : (255 : Int32).toInt = 255 := rfl
  obtain ⟨k, hk⟩ : ∃ k : Nat, c.toInt = k := ⟨c.toInt.toNat, by omega⟩
  have hx : c = Int32.ofNat k := Int32.toInt_inj.mp (by rw [hk, Int32.toInt_ofNat_small (by omega)])
  rw [hx]
  exact t ⟨k, by omega⟩
theorem narrow_ch {c : Int32} (h0 : ¬ c < 0) (h1 : ¬ 65535 < c) : narrow .char (.int c) = .int c := by
  have q : narrow .char (.int (pairCh (lo8 c) (hi8 c))) = .int (pairCh (lo8 c) (hi8 c)) := narrow_c _
  rwa [pair_says h0 h1] at q
/-- the array's cell V codes the n chars f 0 .. f (n - 1) by the coder cd, as the JDK does: coder 1 just where some char is above 255 -/
def Cod (cd : Int32) (n : Nat) (f : Nat → Int32) (V : Cell) : Prop := (cd = 0 ∧ V.slots.size = n ∧ ∀ j, j < n → V.slots[j]? = some (.int (lo8 (f j))) ∧ ¬ 255 < f j) ∨ (cd = 1 ∧ V.slots.size = 2 * n ∧ (∀ j, j < n → V.slots[2 * j]? = some (.int (lo8 (f j))) ∧ V.slots[2 * j + 1]? = some (.int (hi8 (f j)))) ∧ ∃ j, j < n ∧ 255 < f j)
theorem Cod.cd {cd : Int32} {n : Nat} {f : Nat → Int32} {V : Cell} (h : Cod cd n f V) : cd = 0 ∨ cd = 1 := h.imp (fun q => q.1) fun q => q.1
theorem Cod.len {cd : Int32} {n : Nat} {f : Nat → Int32} {V : Cell} (h : Cod cd n f V) (hs : V.slots.size < 2 ^ 31) : Int32.ofNat V.slots.size >>> (cd &&& 31) = Int32.ofNat n := by
  rcases h with ⟨rfl, h, -⟩ | ⟨rfl, h, -⟩
  · rw [shr0, h]
  · rw [h, shr1 (by omega)]
/-- **x is a String of the n chars f 0 .. f (n - 1)**, Latin-1 or UTF-16; its array at t has the cell V -/
def Txt (x t : Addr) (V : Cell) (cd : Int32) (n : Nat) (f : Nat → Int32) (U : State) : Prop := Exact "java/lang/String" x U ∧ Has x "java/lang/String" "value" "[B" (.ref t) U ∧ Has x "java/lang/String" "coder" "B" (.int cd) U ∧ XT.Arr .byte t V U ∧ Cod cd n f V ∧ ∀ j, j < n → ¬ f j < 0 ∧ ¬ 65535 < f j
theorem Txt.mv {x t : Addr} {V : Cell} {cd : Int32} {n : Nat} {f : Nat → Int32} {U U' : State} (h : Txt x t V cd n f U) (hal : U.vm.Alike U'.vm) (hh : U'.heap = U.heap) : Txt x t V cd n f U' := ⟨h.1.mv hal hh, h.2.1.mv hal hh, h.2.2.1.mv hal hh, h.2.2.2.1.mv hal hh, h.2.2.2.2⟩
namespace Cdr
def yN : MethodName := ⟨"java/lang/String", "coder", "()B"⟩
abbrev yB : ByteArray := jdk_42_method_152_code
theorem d0 : decode yB 0 = .ok (.getstatic 38, 3) := by decide +kernel
theorem d3 : decode yB 3 = .ok (.ifCond (.eq) 10, 3) := by decide +kernel
theorem d6 : decode yB 6 = .ok (.aload_n 0, 1) := by decide +kernel
theorem d7 : decode yB 7 = .ok (.getfield 15, 3) := by decide +kernel
theorem d10 : decode yB 10 = .ok (.goto 4, 3) := by decide +kernel
theorem d14 : decode yB 14 = .ok (.ireturn, 1) := by decide +kernel
def site : List Cond := [.fieldLink "java/lang/String" 38 "java/lang/String" "COMPACT_STRINGS" "Z", .fieldLink "java/lang/String" 15 "java/lang/String" "coder" "B"]
def tab : Cond := tabOf yN yB 1 (some .byte) site
def P (x : Addr) (cd z : Int32) (args : Array Value) (s : State) : Prop := args = #[.ref x] ∧ Has x "java/lang/String" "coder" "B" (.int cd) s ∧ (cd = 0 ∨ cd = 1) ∧ StaticIs s "java/lang/String" "COMPACT_STRINGS" "Z" (.int z) ∧ ¬ z = 0
def E (cd : Int32) (r : Option Value) (s u : State) : Prop := XT.PureE (some (.int cd)) r s u
theorem law (l : Launch) (x : Addr) (cd z : Int32) : Law l yN 1 0 0 0 yB 1 (some .byte) site (P x cd z) (E cd) [] 0 0 := by
  refine Law.of_walk (plainFor_of_name (by decide +kernel)) (by decide +kernel) (by decide +kernel) (by decide) (fun _ _ h => by rw [h.1]; rfl) (fun _ U U' hal hh h => ⟨h.1, h.2.1.mv hal hh, h.2.2.1, h.2.2.2.1.there hal hh, h.2.2.2.2⟩) (fun r U U' V V' h1 hal h2 h => XT.PureE.mv r U U' V V' h1 hal h2 h) ?_
  intro p e s m args below meth c s₁ X0 hexec hbytes hml hret hlk hnm hown hh0 W hP
  obtain ⟨rfl, hx, hc, s1, hz⟩ := hP
  have c1 : Steps p.tables e below (s₁.setTop (entryFrame m #[.ref x] 1)) (s₁.setTop (mkF m 0 #[.val (.ref x)] [])) := entry rfl
  obtain ⟨T2, X2, q2, st2⟩ := X0.sget hexec hown (wk W (.fieldLink "java/lang/String" 38 "java/lang/String" "COMPACT_STRINGS" "Z")) s1 (fun _ _ h => by rw [hh0]; exact h) (g := (mkF m 0 #[.val (.ref x)] [])) rfl (hb hbytes d0)
  have hh2 := q2.trans hh0
  have c3 : Steps p.tables e below (s₁.setTop (entryFrame m #[.ref x] 1)) (T2.setTop (mkF m 7 #[.val (.ref x)] [.ref x])) := (c1.trans (st2 _ (Steps.refl _))).trans (by
    refine XS.ifNo X2.here hexec rfl (hb hbytes d3) rfl (i0_eq_f hz) ?_
    refine XS.aloadN X2.here hexec rfl (hb hbytes d6) rfl rfl ?_
    exact Steps.refl _)
  obtain ⟨T4, X4, q4, st4⟩ := X2.hget hexec hown (wk W (.fieldLink "java/lang/String" 15 "java/lang/String" "coder" "B")) (hx.mv X2.warmed.alike hh2) (g := (mkF m 7 #[.val (.ref x)] [.ref x])) rfl (rest := []) rfl (hb hbytes d7)
  have c5 : Steps p.tables e below (s₁.setTop (entryFrame m #[.ref x] 1)) (T4.setTop (mkF m 14 #[.val (.ref x)] [.int cd])) := (c3.trans (st4 _ (Steps.refl _))).trans (by
    refine XS.goto X4.here hexec rfl (pc0 := 10) rfl (hb hbytes d10) (by decide) rfl ?_
    exact Steps.refl _)
  exact ⟨T4, some (.int cd), _, _, _, X4, rfl, rfl, rfl, (fun h => by cases h), ⟨rfl, q4.trans hh2⟩, fun fs hl => c5.trans (X4.ireturnOut hexec hret (by rcases hc with rfl | rfl <;> rfl) (Or.inr (Or.inr (Or.inl rfl))) (hb hbytes d14) hl)⟩
end Cdr
namespace Len
def yN : MethodName := ⟨"java/lang/String", "length", "()I"⟩
abbrev yB : ByteArray := jdk_42_method_54_code
theorem d0 : decode yB 0 = .ok (.aload_n 0, 1) := by decide +kernel
theorem d1 : decode yB 1 = .ok (.getfield 9, 3) := by decide +kernel
theorem d4 : decode yB 4 = .ok (.arraylength, 1) := by decide +kernel
theorem d5 : decode yB 5 = .ok (.aload_n 0, 1) := by decide +kernel
theorem d6 : decode yB 6 = .ok (.invokevirtual 335, 3) := by decide +kernel
theorem d9 : decode yB 9 = .ok (.ishr, 1) := by decide +kernel
theorem d10 : decode yB 10 = .ok (.ireturn, 1) := by decide +kernel
def site : List Cond := [.fieldLink "java/lang/String" 9 "java/lang/String" "value" "[B", Cdr.tab] ++ virtW "java/lang/String" 335 "java/lang/String" Cdr.yN Cdr.yN
def tab : Cond := tabOf yN yB 1 (some .int) site
def P (x t : Addr) (V : Cell) (cd : Int32) (n : Nat) (f : Nat → Int32) (z : Int32) (args : Array Value) (s : State) : Prop := args = #[.ref x] ∧ Txt x t V cd n f s ∧ StaticIs s "java/lang/String" "COMPACT_STRINGS" "Z" (.int z) ∧ ¬ z = 0
def E (n : Nat) (r : Option Value) (s u : State) : Prop := XT.PureE (some (.int (Int32.ofNat n))) r s u
/-- length() of a String of n chars, in either coding -/
theorem law (l : Launch) (x t : Addr) (V : Cell) (cd : Int32) (n : Nat) (f : Nat → Int32) (z : Int32) : Law l yN 1 0 1 13 yB 1 (some .int) site (P x t V cd n f z) (E n) [] 0 0 := by
  refine Law.of_walk (plainFor_of_name (by decide +kernel)) (by decide +kernel) (by decide +kernel) (by decide) (fun _ _ h => by rw [h.1]; rfl) (fun _ U U' hal hh h => ⟨h.1, h.2.1.mv hal hh, h.2.2.1.there hal hh, h.2.2.2⟩) (fun r U U' V V' h1 hal h2 h => XT.PureE.mv r U U' V V' h1 hal h2 h) ?_
  intro p e s m args below meth c s₁ X0 hexec hbytes hml hret hlk hnm hown hh0 W hP
  obtain ⟨rfl, hx, s1, hz⟩ := hP
  have v31 := hx.2.2.2.1.2.2.2
  have c1 : Steps p.tables e below (s₁.setTop (entryFrame m #[.ref x] 1)) (s₁.setTop (mkF m 1 #[.val (.ref x)] [.ref x])) := Steps.trans (entry rfl) (by
    show Steps p.tables e below (s₁.setTop (mkF m 0 #[.val (.ref x)] [])) _
    refine XS.aloadN X0.here hexec rfl (hb hbytes d0) rfl rfl ?_
    exact Steps.refl _)
  obtain ⟨T2, X2, q2, st2⟩ := X0.hget hexec hown (wk W (.fieldLink "java/lang/String" 9 "java/lang/String" "value" "[B")) (hx.mv X0.warmed.alike hh0).2.1 (g := (mkF m 1 #[.val (.ref x)] [.ref x])) rfl (rest := []) rfl (hb hbytes d1)
  have hh2 := q2.trans hh0
  have hx2 := hx.mv X2.warmed.alike hh2
  have c3 : Steps p.tables e below (s₁.setTop (entryFrame m #[.ref x] 1)) (T2.setTop (mkF m 6 #[.val (.ref x)] [.ref x, .int (Int32.ofNat V.slots.size)])) := (c1.trans (st2 _ (Steps.refl _))).trans (by
    refine X2.alen hexec hx2.2.2.2.1 rfl rfl (hb hbytes d4) ?_
    refine XS.aloadN X2.here hexec rfl (hb hbytes d5) rfl rfl ?_
    exact Steps.refl _)
  obtain ⟨v4, T4, X4, E4, g4⟩ := X2.callV hexec (Cdr.law l x cd z) hown (wks W (virtW "java/lang/String" 335 "java/lang/String" Cdr.yN Cdr.yN)) rfl (by decide) (wk W Cdr.tab) (W := 1) (Nat.le_of_ble_eq_true rfl) (Nat.le_of_ble_eq_true rfl) (Nat.le_refl _) (Nat.le_refl _) (hx2.1.fc X2.warmed.alike) hx2.1.is (g := (mkF m 6 #[.val (.ref x)] [.ref x, .int (Int32.ofNat V.slots.size)])) rfl (by rw [hml]; rfl) c3 (argsL := []) (rest := [.int (Int32.ofNat V.slots.size)]) rfl rfl (by show 2 * 0 + (1 + 0) ≤ _; decide) (hb hbytes d6) (⟨rfl, hx2.2.2.1, hx.2.2.2.2.1.cd, s1.there X2.warmed.alike hh2, hz⟩)
  obtain ⟨rfl, q4⟩ := E4
  have c5 : Steps p.tables e below (s₁.setTop (entryFrame m #[.ref x] 1)) (T4.setTop (mkF m 10 #[.val (.ref x)] [.int (Int32.ofNat V.slots.size >>> (cd &&& 31))])) := Steps.trans g4 (by
    refine ishr X4.here hexec rfl (hb hbytes d9) rfl ?_
    exact Steps.refl _)
  rw [hx.2.2.2.2.1.len v31] at c5
  exact ⟨T4, some (.int (Int32.ofNat n)), _, _, _, X4, rfl, rfl, rfl, (fun h => by cases h), ⟨rfl, q4.trans hh2⟩, fun fs hl => c5.trans (X4.ireturnOut hexec hret rfl (Or.inl rfl) (hb hbytes d10) hl)⟩
theorem pays {l : Launch} {R : Room} {p : Program} {e : Env} {below : List Frame} {s : State} {sargs : Array Value} {len W : Nat} (x t : Addr) (V : Cell) (cd : Int32) (n : Nat) (f : Nat → Int32) (z : Int32) (htab : tab.before sargs s = true) (hfr : 2 ≤ R.frames) (hlo : W + 25 ≤ R.locals) :
    Back l R p e below s sargs yN len W (fun A₁ a₁ => A₁.cells + 0 ≤ R.cells ∧ A₁.slots + 0 ≤ R.slots ∧ P x t V cd n f z a₁ A₁.U) (fun A₁ _ v₁ B₁ => E n v₁ A₁.U B₁.U ∧ B₁.locs = A₁.locs ++ [] ∧ B₁.cells = A₁.cells + 0 ∧ B₁.slots = A₁.slots + 0) :=
  (law l x t V cd n f z).pays htab hfr (by omega)
end Len
namespace IsL
def yN : MethodName := ⟨"java/lang/String", "isLatin1", "()Z"⟩
abbrev yB : ByteArray := jdk_42_method_154_code
theorem d0 : decode yB 0 = .ok (.getstatic 38, 3) := by decide +kernel
theorem d3 : decode yB 3 = .ok (.ifCond (.eq) 14, 3) := by decide +kernel
theorem d6 : decode yB 6 = .ok (.aload_n 0, 1) := by decide +kernel
theorem d7 : decode yB 7 = .ok (.getfield 15, 3) := by decide +kernel
theorem d10 : decode yB 10 = .ok (.ifCond (.ne) 7, 3) := by decide +kernel
theorem d13 : decode yB 13 = .ok (.iconst 1, 1) := by decide +kernel
theorem d14 : decode yB 14 = .ok (.goto 4, 3) := by decide +kernel
theorem d17 : decode yB 17 = .ok (.iconst 0, 1) := by decide +kernel
theorem d18 : decode yB 18 = .ok (.ireturn, 1) := by decide +kernel
def site : List Cond := [.fieldLink "java/lang/String" 38 "java/lang/String" "COMPACT_STRINGS" "Z", .fieldLink "java/lang/String" 15 "java/lang/String" "coder" "B"]
def tab : Cond := tabOf yN yB 1 (some .boolean) site
def P (x : Addr) (cd z : Int32) (args : Array Value) (s : State) : Prop := args = #[.ref x] ∧ Has x "java/lang/String" "coder" "B" (.int cd) s ∧ (cd = 0 ∨ cd = 1) ∧ StaticIs s "java/lang/String" "COMPACT_STRINGS" "Z" (.int z) ∧ ¬ z = 0
def E (cd : Int32) (r : Option Value) (s u : State) : Prop := XT.PureE (some (.int (1 - cd))) r s u
theorem law (l : Launch) (x : Addr) (cd z : Int32) : Law l yN 1 0 0 0 yB 1 (some .boolean) site (P x cd z) (E cd) [] 0 0 := by
  refine Law.of_walk (plainFor_of_name (by decide +kernel)) (by decide +kernel) (by decide +kernel) (by decide) (fun _ _ h => by rw [h.1]; rfl) (fun _ U U' hal hh h => ⟨h.1, h.2.1.mv hal hh, h.2.2.1, h.2.2.2.1.there hal hh, h.2.2.2.2⟩) (fun r U U' V V' h1 hal h2 h => XT.PureE.mv r U U' V V' h1 hal h2 h) ?_
  intro p e s m args below meth c s₁ X0 hexec hbytes hml hret hlk hnm hown hh0 W hP
  obtain ⟨rfl, hx, hc, s1, hz⟩ := hP
  have c1 : Steps p.tables e below (s₁.setTop (entryFrame m #[.ref x] 1)) (s₁.setTop (mkF m 0 #[.val (.ref x)] [])) := entry rfl
  obtain ⟨T2, X2, q2, st2⟩ := X0.sget hexec hown (wk W (.fieldLink "java/lang/String" 38 "java/lang/String" "COMPACT_STRINGS" "Z")) s1 (fun _ _ h => by rw [hh0]; exact h) (g := (mkF m 0 #[.val (.ref x)] [])) rfl (hb hbytes d0)
  have hh2 := q2.trans hh0
  have c3 : Steps p.tables e below (s₁.setTop (entryFrame m #[.ref x] 1)) (T2.setTop (mkF m 7 #[.val (.ref x)] [.ref x])) := (c1.trans (st2 _ (Steps.refl _))).trans (by
    refine XS.ifNo X2.here hexec rfl (hb hbytes d3) rfl (i0_eq_f hz) ?_
    refine XS.aloadN X2.here hexec rfl (hb hbytes d6) rfl rfl ?_
    exact Steps.refl _)
  obtain ⟨T4, X4, q4, st4⟩ := X2.hget hexec hown (wk W (.fieldLink "java/lang/String" 15 "java/lang/String" "coder" "B")) (hx.mv X2.warmed.alike hh2) (g := (mkF m 7 #[.val (.ref x)] [.ref x])) rfl (rest := []) rfl (hb hbytes d7)
  have c5 : Steps p.tables e below (s₁.setTop (entryFrame m #[.ref x] 1)) (T4.setTop (mkF m 10 #[.val (.ref x)] [.int cd])) := c3.trans (st4 _ (Steps.refl _))
  have c6 : Steps p.tables e below (s₁.setTop (entryFrame m #[.ref x] 1)) (T4.setTop (mkF m 18 #[.val (.ref x)] [.int (1 - cd)])) := by
    rcases hc with rfl | rfl
    · exact c5.trans (by
        refine XS.ifNo X4.here hexec rfl (hb hbytes d10) rfl (i0_ne_f rfl) ?_
        refine iconstV X4.here hexec rfl 1 (hb hbytes d13) (by decide) ?_
        refine XS.goto X4.here hexec rfl (pc0 := 14) rfl (hb hbytes d14) (by decide) rfl ?_
        exact Steps.refl _)
    · exact c5.trans (by
        refine XS.ifYes X4.here hexec rfl (pc0 := 10) rfl (hb hbytes d10) rfl (i0_ne_t (by decide)) (by decide) rfl ?_
        refine iconstV X4.here hexec rfl 0 (hb hbytes d17) (by decide) ?_
        exact Steps.refl _)
  exact ⟨T4, some (.int (1 - cd)), _, _, _, X4, rfl, rfl, rfl, (fun h => by cases h), ⟨rfl, q4.trans hh2⟩, fun fs hl => c6.trans (X4.ireturnOut hexec hret (by rcases hc with rfl | rfl <;> rfl) (Or.inr (Or.inl rfl)) (hb hbytes d18) hl)⟩
end IsL
namespace LChA
def yN : MethodName := ⟨"java/lang/StringLatin1", "charAt", "([BI)C"⟩
abbrev yB : ByteArray := jdk_43_method_2_code
theorem d0 : decode yB 0 = .ok (.iload_n 1, 1) := by decide +kernel
theorem d1 : decode yB 1 = .ok (.aload_n 0, 1) := by decide +kernel
theorem d2 : decode yB 2 = .ok (.arraylength, 1) := by decide +kernel
theorem d3 : decode yB 3 = .ok (.invokestatic 9, 3) := by decide +kernel
theorem d6 : decode yB 6 = .ok (.aload_n 0, 1) := by decide +kernel
theorem d7 : decode yB 7 = .ok (.iload_n 1, 1) := by decide +kernel
theorem d8 : decode yB 8 = .ok (.baload, 1) := by decide +kernel
theorem d9 : decode yB 9 = .ok (.sipush 255, 3) := by decide +kernel
theorem d12 : decode yB 12 = .ok (.iand, 1) := by decide +kernel
theorem d13 : decode yB 13 = .ok (.i2c, 1) := by decide +kernel
theorem d14 : decode yB 14 = .ok (.ireturn, 1) := by decide +kernel
def site : List Cond := [JO.Str_checkIndex.tab] ++ staticW "java/lang/StringLatin1" 9 JO.Str_checkIndex.yN
def tab : Cond := tabOf yN yB 2 (some .char) site
def P (t : Addr) (V : Cell) (i : Nat) (u : Int32) (fm : Value) (args : Array Value) (s : State) : Prop := args = #[.ref t, .int (Int32.ofNat i)] ∧ XT.Arr .byte t V s ∧ V.slots[i]? = some (.int u) ∧ (StaticIs s "jdk/internal/util/Preconditions" "SIOOBE_FORMATTER" "Ljava/util/function/BiFunction;" fm ∧ fm.isRef = true)
def E (u : Int32) (r : Option Value) (s w : State) : Prop := XT.PureE (some (.int (chr8 u))) r s w
theorem law (l : Launch) (t : Addr) (V : Cell) (i : Nat) (u : Int32) (fm : Value) : Law l yN 2 2 2 27 yB 2 (some .char) site (P t V i u fm) (E u) [] 0 0 := by
  refine Law.of_walk (plainFor_of_name (by decide +kernel)) (by decide +kernel) (by decide +kernel) (by decide) (fun _ _ h => by rw [h.1]; rfl) (fun _ U U' hal hh h => ⟨h.1, h.2.1.mv hal hh, h.2.2.1, h.2.2.2.1.there hal hh, h.2.2.2.2⟩) (fun r U U' V V' h1 hal h2 h => XT.PureE.mv r U U' V V' h1 hal h2 h) ?_
  intro p e s m args below meth c s₁ X0 hexec hbytes hml hret hlk hnm hown hh0 W hP
  obtain ⟨rfl, hV, hu, s1, rf⟩ := hP
  have v31 := hV.2.2.2
  have hi : i < V.slots.size := (Array.getElem?_eq_some_iff.mp hu).1
  have c1 : Steps p.tables e below (s₁.setTop (entryFrame m #[.ref t, .int (Int32.ofNat i)] 2)) (s₁.setTop (mkF m 0 #[.val (.ref t), .val (.int (Int32.ofNat i))] [])) := entry rfl
  have c2 : Steps p.tables e below (s₁.setTop (entryFrame m #[.ref t, .int (Int32.ofNat i)] 2)) (s₁.setTop (mkF m 3 #[.val (.ref t), .val (.int (Int32.ofNat i))] [.int (Int32.ofNat V.slots.size), .int (Int32.ofNat i)])) := c1.trans (by
    refine XS.iloadN X0.here hexec rfl (hb hbytes d0) rfl ?_
    refine XS.aloadN X0.here hexec rfl (hb hbytes d1) rfl rfl ?_
    refine X0.alen hexec (hV.mv X0.warmed.alike hh0) rfl rfl (hb hbytes d2) ?_
    exact Steps.refl _)
  obtain ⟨v3, T3, X3, E3, g3⟩ := X0.callS hexec (JO.Str_checkIndex.law l (Int32.ofNat i) (Int32.ofNat V.slots.size) fm) hown (wks W (staticW "java/lang/StringLatin1" 9 JO.Str_checkIndex.yN)) (wk W JO.Str_checkIndex.tab) (W := 0) (Nat.le_of_ble_eq_true rfl) (Nat.le_of_ble_eq_true rfl) (Nat.le_refl _) (Nat.le_refl _) (g := (mkF m 3 #[.val (.ref t), .val (.int (Int32.ofNat i))] [.int (Int32.ofNat V.slots.size), .int (Int32.ofNat i)])) rfl (by rw [hml]; rfl) c2 (argsL := [.int (Int32.ofNat i), .int (Int32.ofNat V.slots.size)]) (rest := []) rfl rfl (by show 2 * 0 + 0 ≤ _; decide) (hb hbytes d3) (⟨rfl, rf, s1.there X0.warmed.alike hh0, Int32.ofNat_not_neg (by omega), lt32 v31 hi⟩)
  obtain ⟨rfl, q3⟩ := E3
  have hh3 := q3.trans hh0
  have c4 : Steps p.tables e below (s₁.setTop (entryFrame m #[.ref t, .int (Int32.ofNat i)] 2)) (T3.setTop (mkF m 14 #[.val (.ref t), .val (.int (Int32.ofNat i))] [.int (chr8 u)])) := Steps.trans g3 (by
    refine XS.aloadN X3.here hexec rfl (hb hbytes d6) rfl rfl ?_
    refine XS.iloadN X3.here hexec rfl (hb hbytes d7) rfl ?_
    refine X3.aget hexec (hV.mv X3.warmed.alike hh3) rfl hu rfl rfl (hb hbytes d8) ?_
    refine sipushV X3.here hexec rfl 255 (hb hbytes d9) (by decide) ?_
    refine XS.iand X3.here hexec rfl (hb hbytes d12) rfl ?_
    refine i2c X3.here hexec rfl (hb hbytes d13) rfl ?_
    exact Steps.refl _)
  exact ⟨T3, some (.int (chr8 u)), _, _, _, X3, rfl, rfl, rfl, (fun h => by cases h), ⟨rfl, hh3⟩, fun fs hl => c4.trans (X3.ireturnOut hexec hret (narrow_c _) (Or.inr (Or.inr (Or.inr (Or.inl rfl)))) (hb hbytes d14) hl)⟩
end LChA
end StrChars
namespace StrChars.Road
open Jvm Sem ClassFile Op Lib Jvm.Stand Jvm.Free Jvm.Free.XT
open Jvm.Lib.Cold (StaticIs)
theorem consq {a : Array Value} {s : State} {c : Jvm.Cond} {L : List Jvm.Cond} (h0 : c.before a s = true) (h : ∀ w ∈ L, w.before a s = true) : ∀ w ∈ c :: L, w.before a s = true := fun w hw => (List.mem_cons.mp hw).elim (fun e => e ▸ h0) (h w)
/-- the words of String.length(), either coding -/
abbrev wordsLen : List Jvm.Cond := [.code Len.yN Len.yB 1 (some .int), .initialized ST, .fieldLink ST 9 ST "value" "[B", .fieldLink ST 38 ST "COMPACT_STRINGS" "Z", .fieldLink ST 15 ST "coder" "B", .code Cdr.yN Cdr.yB 1 (some .byte), .methodLink ST 335 Cdr.yN, .declares Cdr.yN, .selects ST Cdr.yN Cdr.yN, .instanceMethod Cdr.yN]
theorem tabLen_of {a : Array Value} {s : State} (h : ∀ w ∈ wordsLen, w.before a s = true) : Len.tab.before a s = true := by
  have hc : Cdr.tab.before a s = true := unparts (wk h (.code Cdr.yN Cdr.yB 1 (some .byte))) (wks h (.initialized Cdr.yN.cls :: Cdr.site))
  have q := consq hc h
  exact unparts (wk q (.code Len.yN Len.yB 1 (some .int))) (wks q (.initialized Len.yN.cls :: Len.site))
theorem movedLen {Z s : State} {a0 args : Array Value} (hZ : Z.Warmed39 s.vm) (hw : ∀ d ∈ wordsLen, d.before a0 Z = true) : ∀ d ∈ wordsLen, d.before args s = true := fun d hd => by
  have q := hw d hd
  have t : ∀ d ∈ wordsLen, d = .arrayClass .byte ∨ (d.onTables && d.keepsFace) = true := by decide +kernel
  rcases t d hd with rfl | t
  · exact RoadKit.mvA hZ q
  · exact RoadKit.mv hZ q t
/-- the bytes of the chars cs, low before high -/
def wideBytes : List Int32 → List Value
  | [] => []
  | c :: cs => .int (lo8 c) :: .int (hi8 c) :: wideBytes cs
theorem wide_lo (d : Value) : ∀ (cs : List Int32) (j : Nat), j < cs.length → (wideBytes cs).getD (2 * j) d = .int (lo8 (cs.getD j 0))
  | [], j, h => absurd h (Nat.not_lt_zero j)
  | c :: cs, 0, _ => rfl
  | c :: cs, j + 1, h => by
    have q := wide_lo d cs j (by simpa using h)
    rw [show 2 * (j + 1) = 2 * j + 1 + 1 from by omega]
    simpa [wideBytes] using q
theorem wide_hi (d : Value) : ∀ (cs : List Int32) (j : Nat), j < cs.length → (wideBytes cs).getD (2 * j + 1) d = .int (hi8 (cs.getD j 0))
  | [], j, h => absurd h (Nat.not_lt_zero j)
  | c :: cs, 0, _ => rfl
  | c :: cs, j + 1, h => by
    have q := wide_hi d cs j (by simpa using h)
    rw [show 2 * (j + 1) + 1 = 2 * j + 1 + 1 + 1 from by omega]
    simpa [wideBytes] using q
theorem low_at (d : Value) (cs : List Int32) (j : Nat) (h : j < cs.length) : (cs.map fun c => Value.int (lo8 c)).getD j d = .int (lo8 (cs.getD j 0)) := by
  simp [List.getD_eq_getElem?_getD, h]
/-- an array of N2 bytes vs codes the chars cs by the coder cd -/
def CodA (cs : List Int32) (cd N2 : Int32) (vs : List Value) : Prop := (cd = 0 ∧ N2 = Int32.ofNat cs.length ∧ vs = (cs.map fun c => Value.int (lo8 c)) ∧ ∀ c ∈ cs, ¬ 255 < c) ∨ (cd = 1 ∧ N2 = Int32.ofNat (2 * cs.length) ∧ vs = wideBytes cs ∧ ∃ c ∈ cs, 255 < c)
theorem CodA.cod {cs : List Int32} {cd N2 : Int32} {vs : List Value} {V : Cell} (h : CodA cs cd N2 vs) (hn : 2 * cs.length < 2 ^ 31) (hs : V.slots.size = N2.toNatClampNeg) (hv : RoadKit.Has V vs (.int 0)) : Cod cd cs.length (fun j => cs.getD j 0) V := by
  rcases h with ⟨rfl, rfl, rfl, h⟩ | ⟨rfl, rfl, rfl, c, hc, hw⟩
  · rw [n32 (by omega)] at hs
    exact Or.inl ⟨rfl, hs, fun j hj => ⟨by rw [hv j (by omega), low_at _ _ _ hj], by
      have e : cs.getD j 0 = cs[j] := by simp [List.getD_eq_getElem?_getD, hj]
      show ¬ 255 < cs.getD j 0
      rw [e]; exact h _ (List.getElem_mem _)⟩⟩
  · rw [n32 (by omega)] at hs
    obtain ⟨j, hj, rfl⟩ := List.getElem_of_mem hc
    exact Or.inr ⟨rfl, hs, fun j hj => ⟨by rw [hv _ (by omega), wide_lo _ _ _ hj], by rw [hv _ (by omega), wide_hi _ _ _ hj]⟩, j, hj, by
      have e : cs.getD j 0 = cs[j] := by simp [List.getD_eq_getElem?_getD, hj]
      show 255 < cs.getD j 0
      rw [e]; exact hw⟩
/-- an object of exactly java/lang/String, its two fields found: as the laws ask it -/
theorem strObj {Z U : State} {a0 : Array Value} {kI : Nat} (wi : (Jvm.Cond.instantiable ST kI).before a0 Z = true) (al : Z.vm.Alike U.vm) {x : Addr} {v0 c0 : Value} (E : RoadKit.Exa Z U.heap x ST) (V : RoadKit.Fld Z U.heap x ST "value" "[B" v0) (C : RoadKit.Fld Z U.heap x ST "coder" "B" c0) :
    ∃ (D : Cell) (fV fC : Field), Blank ST x D U ∧ Found ST "value" "[B" fV U ∧ Found ST "coder" "B" fC U ∧ D.slots[fV.slot]? = some v0 ∧ D.slots[fC.slot]? = some c0 ∧ RoadKit.slotOf Z ST "value" "[B" = fV.slot ∧ RoadKit.slotOf Z ST "coder" "B" = fC.slot := by
  obtain ⟨D, cfV, kV, iV, fV, hD, gV, stV, knV, obV, asV, slV⟩ := V
  obtain ⟨D', cfC, kC, iC, fC, hD', gC, stC, -, -, asC, slC⟩ := C
  cases hD.symm.trans hD'
  obtain ⟨D2, kD, e1, e2, e3, e4, e5⟩ := E
  cases hD.symm.trans e1
  obtain ⟨c2, k2, i1, i2, i3, -⟩ := Cond.instantiable_spec wi
  cases e2.symm.trans i1
  cases e3.symm.trans i2
  obtain ⟨kU, u1, u2⟩ := al.2.2 _ _ e3
  exact ⟨D, fV, fC, ⟨hD, ⟨knV, fun q hq => by rw [hq] at obV; cases obV⟩, by rw [al.findClass]; exact e2, kU, u1, by rw [u2]; exact i3, by rw [u2]; exact e5 i3⟩, ⟨SBG.found_only al ⟨cfV, kV, iV, gV⟩, stV⟩, ⟨SBG.found_only al ⟨cfC, kC, iC, gC⟩, stC⟩, slV, slC, by simp [RoadKit.slotOf, gV], by simp [RoadKit.slotOf, gC]⟩
theorem sta_is {Z U : State} (al : Z.vm.Alike U.vm) {C n d : String} {v : Value} (S : RoadKit.Sta Z U.heap C n d v) : StaticIs U C n d v := by
  obtain ⟨cfS, iS, kS, fS, st, cS, t1, t2, t3, t4, t5, t6, t7⟩ := S
  exact StaticIs.there (s := { Z with heap := U.heap }) ⟨cfS, iS, kS, fS, st, cS, t1, t2, t3, t4, t5, (fun q => by rw [q] at t6; cases t6), t7⟩ al rfl
/-- **length() OF SUCH A STRING** -/
theorem lenW {p : Program} {l : Launch} {e : Env} {R : Room} {s : State} {args : Array Value} {below : List Frame} {len W : Nat} {Z : State} {a0 : Array Value} {h : Heap} (hZ : Z.Warmed39 s.vm) (hw : ∀ d ∈ wordsLen, d.before a0 Z = true) {kI : Nat} (wi : (Jvm.Cond.instantiable ST kI).before a0 Z = true)
    {x t : Addr} {kb : ClassId} {cs : List Int32} {cd N2 z : Int32} {vs : List Value} (E : RoadKit.Exa Z h x ST) (V : RoadKit.Fld Z h x ST "value" "[B" (.ref t)) (C : RoadKit.Fld Z h x ST "coder" "B" (.int cd)) (K : RoadKit.Arv Z h t kb .byte N2 vs (.int 0)) (hc : CodA cs cd N2 vs) (hb : ∀ c ∈ cs, ¬ c < 0 ∧ ¬ (65535 : Int32) < c)
    (S : RoadKit.Sta Z h ST "COMPACT_STRINGS" "Z" (.int z)) (hz : ¬ z = 0) (l2 : cs.length ≤ 4000) (hfr : 2 ≤ R.frames) (hlo : W + 25 ≤ R.locals) :
    Back l R p e below s args (⟨"java/lang/String", "length", "()I"⟩ : MethodName) len W (fun P a => a = #[.ref x] ∧ P.U.heap = h ∧ P.cells + 0 ≤ R.cells ∧ P.slots + 0 ≤ R.slots)
      (fun P _ v B => ∃ L, (v = some (.int (Int32.ofNat cs.length)) ∧ L = [] ∧ B.U.heap = h) ∧ B.locs = P.locs ++ L ∧ B.cells = P.cells + 0 ∧ B.slots = P.slots + 0) := by
  obtain ⟨A, K1, K2, K3, K4, K5, K6⟩ := K
  have hcod := hc.cod (by omega) K3 K5
  intro m meth c P g ig mk a X hg hsize hdg hW hn hp'
  obtain ⟨rfl, rfl, r1, r2⟩ := hp'
  have al : Z.vm.Alike P.U.vm := hZ.alike.trans X.warmed.alike
  obtain ⟨D, fV, fC, hB, F1, F2, g1, g2, -, -⟩ := strObj wi al E V C
  have hx : Txt x t A cd cs.length (fun j => cs.getD j 0) P.U := ⟨⟨_, hB.2.2.1, D, hB.1, rfl, by cases q : D.vm <;> first | rfl | exact absurd q (hB.2.1.2 _)⟩, Has.of hB F1 g1, Has.of hB F2 g2, ⟨K1.1, State.isArrayOf_alike al K1.2.1, K1.2.2, by rcases hcod with ⟨-, q, -⟩ | ⟨-, q, -⟩ <;> omega⟩, hcod, fun j hj => by
    have e : cs.getD j 0 = cs[j] := by simp [List.getD_eq_getElem?_getD, hj]
    show ¬ cs.getD j 0 < 0 ∧ ¬ 65535 < cs.getD j 0
    rw [e]; exact hb _ (List.getElem_mem _)⟩
  obtain ⟨v, B, X', ⟨⟨hv, hh⟩, hl, hk, hs⟩, st⟩ := Len.pays x t A cd cs.length (fun j => cs.getD j 0) z (tabLen_of (movedLen hZ hw)) hfr hlo m meth c P g ig mk _ X hg hsize hdg hW hn ⟨r1, r2, rfl, hx, sta_is al S, hz⟩
  exact ⟨v, B, X', ⟨[], ⟨hv, rfl, hh⟩, hl, hk, hs⟩, st⟩
end StrChars.Road
namespace StrChars.Road
open Jvm Sem ClassFile Op Lib Jvm.Stand Jvm.Free Jvm.Free.XT
open Jvm.Lib.Cold (StaticIs)
/-- the road's facts of a String, as the laws ask it -/
theorem txt_of {Z U : State} {a0 : Array Value} {kI : Nat} (wi : (Jvm.Cond.instantiable ST kI).before a0 Z = true) (al : Z.vm.Alike U.vm) {x t : Addr} {kb : ClassId} {cs : List Int32} {cd N2 : Int32} {vs : List Value} (E : RoadKit.Exa Z U.heap x ST) (V : RoadKit.Fld Z U.heap x ST "value" "[B" (.ref t)) (C : RoadKit.Fld Z U.heap x ST "coder" "B" (.int cd)) (K : RoadKit.Arv Z U.heap t kb .byte N2 vs (.int 0)) (hc : CodA cs cd N2 vs) (hb : ∀ c ∈ cs, ¬ c < 0 ∧ ¬ (65535 : Int32) < c) (l2 : cs.length ≤ 4000) :
    ∃ A, Txt x t A cd cs.length (fun j => cs.getD j 0) U := by
  obtain ⟨A, K1, K2, K3, K4, K5, K6⟩ := K
  have hcod := hc.cod (by omega) K3 K5
  obtain ⟨D, fV, fC, hB, F1, F2, g1, g2, -, -⟩ := strObj wi al E V C
  exact ⟨A, ⟨_, hB.2.2.1, D, hB.1, rfl, by cases q : D.vm <;> first | rfl | exact absurd q (hB.2.1.2 _)⟩, Has.of hB F1 g1, Has.of hB F2 g2, ⟨K1.1, State.isArrayOf_alike al K1.2.1, K1.2.2, by rcases hcod with ⟨-, q, -⟩ | ⟨-, q, -⟩ <;> omega⟩, hcod, fun j hj => by
    have e : cs.getD j 0 = cs[j] := by simp [List.getD_eq_getElem?_getD, hj]
    show ¬ cs.getD j 0 < 0 ∧ ¬ 65535 < cs.getD j 0
    rw [e]; exact hb _ (List.getElem_mem _)⟩
end StrChars.Road
namespace StrChars
open Jvm Sem ClassFile Op Lib Jvm.Stand Jvm.Free.XT Jvm.Free.ALB Jvm.Free.JM Jvm.Free
open Jvm.Lib.Cold (StaticIs)
namespace ChN
def yN : MethodName := ⟨"java/lang/String", "charAt", "(I)C"⟩
abbrev yB : ByteArray := jdk_42_method_56_code
theorem d0 : decode yB 0 = .ok (.aload_n 0, 1) := by decide +kernel
theorem d1 : decode yB 1 = .ok (.invokevirtual 492, 3) := by decide +kernel
theorem d4 : decode yB 4 = .ok (.ifCond (.eq) 12, 3) := by decide +kernel
theorem d7 : decode yB 7 = .ok (.aload_n 0, 1) := by decide +kernel
theorem d8 : decode yB 8 = .ok (.getfield 9, 3) := by decide +kernel
theorem d11 : decode yB 11 = .ok (.iload_n 1, 1) := by decide +kernel
theorem d12 : decode yB 12 = .ok (.invokestatic 495, 3) := by decide +kernel
theorem d15 : decode yB 15 = .ok (.ireturn, 1) := by decide +kernel
def site : List Cond := [.fieldLink "java/lang/String" 9 "java/lang/String" "value" "[B", IsL.tab, LChA.tab] ++ virtW "java/lang/String" 492 "java/lang/String" IsL.yN IsL.yN ++ staticW "java/lang/String" 495 LChA.yN
def tab : Cond := tabOf yN yB 2 (some .char) site
def P (x t : Addr) (V : Cell) (n : Nat) (f : Nat → Int32) (z : Int32) (fm : Value) (i : Nat) (args : Array Value) (s : State) : Prop := args = #[.ref x, .int (Int32.ofNat i)] ∧ Txt x t V 0 n f s ∧ i < n ∧ StaticIs s "java/lang/String" "COMPACT_STRINGS" "Z" (.int z) ∧ ¬ z = 0 ∧ StaticIs s "jdk/internal/util/Preconditions" "SIOOBE_FORMATTER" "Ljava/util/function/BiFunction;" fm ∧ fm.isRef = true
def E (f : Nat → Int32) (i : Nat) (r : Option Value) (s u : State) : Prop := XT.PureE (some (.int (f i))) r s u
/-- charAt(i) of a Latin-1 String of n chars, i < n: f i -/
theorem law (l : Launch) (x t : Addr) (V : Cell) (n : Nat) (f : Nat → Int32) (z : Int32) (fm : Value) (i : Nat) : Law l yN 2 1 3 40 yB 2 (some .char) site (P x t V n f z fm i) (E f i) [] 0 0 := by
  refine Law.of_walk (plainFor_of_name (by decide +kernel)) (by decide +kernel) (by decide +kernel) (by decide) (fun _ _ h => by rw [h.1]; rfl) (fun _ U U' hal hh h => ⟨h.1, h.2.1.mv hal hh, h.2.2.1, h.2.2.2.1.there hal hh, h.2.2.2.2.1, h.2.2.2.2.2.1.there hal hh, h.2.2.2.2.2.2⟩) (fun r U U' V V' h1 hal h2 h => XT.PureE.mv r U U' V V' h1 hal h2 h) ?_
  intro p e s m args below meth c s₁ X0 hexec hbytes hml hret hlk hnm hown hh0 W hP
  obtain ⟨rfl, hx, hi, s1, hz, s3, rf⟩ := hP
  have v31 := hx.2.2.2.1.2.2.2
  have hr := hx.2.2.2.2.2 i hi
  have hx0 := hx.mv X0.warmed.alike hh0
  have c1 : Steps p.tables e below (s₁.setTop (entryFrame m #[.ref x, .int (Int32.ofNat i)] 2)) (s₁.setTop (mkF m 1 #[.val (.ref x), .val (.int (Int32.ofNat i))] [.ref x])) := Steps.trans (entry rfl) (by
    show Steps p.tables e below (s₁.setTop (mkF m 0 #[.val (.ref x), .val (.int (Int32.ofNat i))] [])) _
    refine XS.aloadN X0.here hexec rfl (hb hbytes d0) rfl rfl ?_
    exact Steps.refl _)
  obtain ⟨v2, T2, X2, E2, g2⟩ := X0.callV hexec (IsL.law l x 0 z) hown (wks W (virtW "java/lang/String" 492 "java/lang/String" IsL.yN IsL.yN)) rfl (by decide) (wk W IsL.tab) (W := 0) (Nat.le_of_ble_eq_true rfl) (Nat.le_of_ble_eq_true rfl) (Nat.le_refl _) (Nat.le_refl _) (hx0.1.fc X0.warmed.alike) hx0.1.is (g := (mkF m 1 #[.val (.ref x), .val (.int (Int32.ofNat i))] [.ref x])) rfl (by rw [hml]; rfl) c1 (argsL := []) (rest := []) rfl rfl (by show 2 * 0 + 0 ≤ _; decide) (hb hbytes d1) (⟨rfl, hx0.2.2.1, hx.2.2.2.2.1.cd, s1.there X0.warmed.alike hh0, hz⟩)
  obtain ⟨rfl, q2⟩ := E2
  have hh2 := q2.trans hh0
  have hx2 := hx.mv X2.warmed.alike hh2
  obtain ⟨-, k1, k2⟩ | ⟨k0, -⟩ := hx.2.2.2.2.1
  · have c3 : Steps p.tables e below (s₁.setTop (entryFrame m #[.ref x, .int (Int32.ofNat i)] 2)) (T2.setTop (mkF m 8 #[.val (.ref x), .val (.int (Int32.ofNat i))] [.ref x])) := Steps.trans g2 (by
      refine XS.ifNo X2.here hexec rfl (hb hbytes d4) rfl (i0_eq_f (by decide)) ?_
      refine XS.aloadN X2.here hexec rfl (hb hbytes d7) rfl rfl ?_
      exact Steps.refl _)
    obtain ⟨T4, X4, q4, st4⟩ := X2.hget hexec hown (wk W (.fieldLink "java/lang/String" 9 "java/lang/String" "value" "[B")) hx2.2.1 (g := (mkF m 8 #[.val (.ref x), .val (.int (Int32.ofNat i))] [.ref x])) rfl (rest := []) rfl (hb hbytes d8)
    have hh4 := q4.trans hh2
    have c5 : Steps p.tables e below (s₁.setTop (entryFrame m #[.ref x, .int (Int32.ofNat i)] 2)) (T4.setTop (mkF m 12 #[.val (.ref x), .val (.int (Int32.ofNat i))] [.int (Int32.ofNat i), .ref t])) := (c3.trans (st4 _ (Steps.refl _))).trans (by
      refine XS.iloadN X4.here hexec rfl (hb hbytes d11) rfl ?_
      exact Steps.refl _)
    obtain ⟨v6, T6, X6, E6, g6⟩ := X4.callS hexec (LChA.law l t V i (lo8 (f i)) fm) hown (wks W (staticW "java/lang/String" 495 LChA.yN)) (wk W LChA.tab) (W := 0) (Nat.le_of_ble_eq_true rfl) (Nat.le_of_ble_eq_true rfl) (Nat.le_refl _) (Nat.le_refl _) (g := (mkF m 12 #[.val (.ref x), .val (.int (Int32.ofNat i))] [.int (Int32.ofNat i), .ref t])) rfl (by rw [hml]; rfl) c5 (argsL := [.ref t, .int (Int32.ofNat i)]) (rest := []) rfl rfl (by show 2 * 0 + 0 ≤ _; decide) (hb hbytes d12) (⟨rfl, hx.2.2.2.1.mv X4.warmed.alike hh4, (k2 i hi).1, s3.there X4.warmed.alike hh4, rf⟩)
    obtain ⟨rfl, q6⟩ := E6
    rw [chr8_lo8 hr.1 (k2 i hi).2] at g6
    exact ⟨T6, some (.int (f i)), _, _, _, X6, rfl, rfl, rfl, (fun h => by cases h), ⟨rfl, q6.trans hh4⟩, fun fs hl => Steps.trans g6 (X6.ireturnOut hexec hret (narrow_ch hr.1 hr.2) (Or.inr (Or.inr (Or.inr (Or.inl rfl)))) (hb hbytes d15) hl)⟩
  · exact absurd k0 (by decide)
theorem pays {l : Launch} {R : Room} {p : Program} {e : Env} {below : List Frame} {s : State} {sargs : Array Value} {len W : Nat} (x t : Addr) (V : Cell) (n : Nat) (f : Nat → Int32) (z : Int32) (fm : Value) (i : Nat) (htab : tab.before sargs s = true) (hfr : 4 ≤ R.frames) (hlo : W + 53 ≤ R.locals) :
    Back l R p e below s sargs yN len W (fun A₁ a₁ => A₁.cells + 0 ≤ R.cells ∧ A₁.slots + 0 ≤ R.slots ∧ P x t V n f z fm i a₁ A₁.U) (fun A₁ _ v₁ B₁ => E f i v₁ A₁.U B₁.U ∧ B₁.locs = A₁.locs ++ [] ∧ B₁.cells = A₁.cells + 0 ∧ B₁.slots = A₁.slots + 0) :=
  (law l x t V n f z fm i).pays htab hfr (by omega)
end ChN
end StrChars
namespace StrChars.Road
open Jvm Sem ClassFile Op Lib Jvm.Stand Jvm.Free Jvm.Free.XT
open Jvm.Lib.Cold (StaticIs)
/-- the words of String.charAt(int), the Latin-1 road alone -/
abbrev wordsChN : List Jvm.Cond := [.code ChN.yN ChN.yB 2 (some .char), .initialized ST, .fieldLink ST 9 ST "value" "[B", .fieldLink ST 38 ST "COMPACT_STRINGS" "Z", .fieldLink ST 15 ST "coder" "B", .code IsL.yN IsL.yB 1 (some .boolean), .methodLink ST 492 IsL.yN, .declares IsL.yN, .selects ST IsL.yN IsL.yN, .instanceMethod IsL.yN,
  .methodLink ST 495 LChA.yN, .static LChA.yN, .code LChA.yN LChA.yB 2 (some .char), .initialized "java/lang/StringLatin1", .methodLink "java/lang/StringLatin1" 9 JO.Str_checkIndex.yN, .static JO.Str_checkIndex.yN, .code JO.Str_checkIndex.yN JO.Str_checkIndex.yB 2 none,
  .fieldLink ST 1053 "jdk/internal/util/Preconditions" "SIOOBE_FORMATTER" "Ljava/util/function/BiFunction;", .methodLink ST 1059 JC.PreCheck.yN, .static JC.PreCheck.yN, .code JC.PreCheck.yN JC.PreCheck.yB 3 (some .int), .initialized "jdk/internal/util/Preconditions"]
theorem tabChN_of {a : Array Value} {s : State} (h : ∀ w ∈ wordsChN, w.before a s = true) : ChN.tab.before a s = true := by
  have hp : JC.PreCheck.tab.before a s = true := unparts (wk h (.code JC.PreCheck.yN JC.PreCheck.yB 3 (some .int))) (wks h (.initialized JC.PreCheck.yN.cls :: JC.PreCheck.site))
  have qk := consq hp h
  have hk : JO.Str_checkIndex.tab.before a s = true := unparts (wk qk (.code JO.Str_checkIndex.yN JO.Str_checkIndex.yB 2 none)) (wks qk (.initialized JO.Str_checkIndex.yN.cls :: JO.Str_checkIndex.site))
  have ql := consq hk h
  have hl : LChA.tab.before a s = true := unparts (wk ql (.code LChA.yN LChA.yB 2 (some .char))) (wks ql (.initialized LChA.yN.cls :: LChA.site))
  have hi : IsL.tab.before a s = true := unparts (wk h (.code IsL.yN IsL.yB 1 (some .boolean))) (wks h (.initialized IsL.yN.cls :: IsL.site))
  have q := consq hi (consq hl h)
  exact unparts (wk q (.code ChN.yN ChN.yB 2 (some .char))) (wks q (.initialized ChN.yN.cls :: ChN.site))
theorem movedChN {Z s : State} {a0 args : Array Value} (hZ : Z.Warmed39 s.vm) (hw : ∀ d ∈ wordsChN, d.before a0 Z = true) : ∀ d ∈ wordsChN, d.before args s = true := fun d hd => by
  have t : ∀ d ∈ wordsChN, (d.onTables && d.keepsFace) = true := by decide +kernel
  exact RoadKit.mv hZ (hw d hd) (t d hd)
/-- **charAt(i) OF A LATIN-1 STRING**, i < n: the char -/
theorem chN {p : Program} {l : Launch} {e : Env} {R : Room} {s : State} {args : Array Value} {below : List Frame} {len W : Nat} {Z : State} {a0 : Array Value} {h : Heap} (hZ : Z.Warmed39 s.vm) (hw : ∀ d ∈ wordsChN, d.before a0 Z = true) {kI : Nat} (wi : (Jvm.Cond.instantiable ST kI).before a0 Z = true)
    {x t : Addr} {kb : ClassId} {cs : List Int32} {N2 z : Int32} {vs : List Value} {fm : Value} {i : Nat} {j : Int32} (E : RoadKit.Exa Z h x ST) (V : RoadKit.Fld Z h x ST "value" "[B" (.ref t)) (C : RoadKit.Fld Z h x ST "coder" "B" (.int 0)) (K : RoadKit.Arv Z h t kb .byte N2 vs (.int 0)) (hc : CodA cs 0 N2 vs) (hb : ∀ c ∈ cs, ¬ c < 0 ∧ ¬ (65535 : Int32) < c)
    (S : RoadKit.Sta Z h ST "COMPACT_STRINGS" "Z" (.int z)) (hz : ¬ z = 0) (F : RoadKit.Sta Z h "jdk/internal/util/Preconditions" "SIOOBE_FORMATTER" "Ljava/util/function/BiFunction;" fm) (rf : fm.isRef = true) (l2 : cs.length ≤ 4000) (hi : i < cs.length) (hj : j = Int32.ofNat i) (hfr : 4 ≤ R.frames) (hlo : W + 53 ≤ R.locals) :
    Back l R p e below s args (⟨"java/lang/String", "charAt", "(I)C"⟩ : MethodName) len W (fun P a => a = #[.ref x, .int j] ∧ P.U.heap = h ∧ P.cells + 0 ≤ R.cells ∧ P.slots + 0 ≤ R.slots)
      (fun P _ v B => ∃ L, (v = some (.int (cs.getD i 0)) ∧ L = [] ∧ B.U.heap = h) ∧ B.locs = P.locs ++ L ∧ B.cells = P.cells + 0 ∧ B.slots = P.slots + 0) := by
  subst hj
  intro m meth c P g ig mk a X hg hsize hdg hW hn hp'
  obtain ⟨rfl, rfl, r1, r2⟩ := hp'
  have al : Z.vm.Alike P.U.vm := hZ.alike.trans X.warmed.alike
  obtain ⟨A, hx⟩ := txt_of wi al E V C K hc hb l2
  obtain ⟨v, B, X', ⟨⟨hv, hh⟩, hl, hk, hs⟩, st⟩ := ChN.pays x t A cs.length (fun j => cs.getD j 0) z fm i (tabChN_of (movedChN hZ hw)) hfr hlo m meth c P g ig mk _ X hg hsize hdg hW hn ⟨r1, r2, rfl, hx, hi, sta_is al S, hz, sta_is al F, rf⟩
  exact ⟨v, B, X', ⟨[], ⟨hv, rfl, hh⟩, hl, hk, hs⟩, st⟩
/-- what backV says of its String, as the contracts of this text ask it: cs's low bytes, coder 0 -/
theorem codOf {cs : List Int32} {n : Nat} (hn : cs.length = n) (hb : ∀ c ∈ cs, ¬ 255 < c) : CodA cs 0 (Int32.ofNat n) ((cs.map lo8).map Value.int) := Or.inl ⟨rfl, by rw [hn], by simp [List.map_map, Function.comp_def], hb⟩
end StrChars.Road
end Jvm.Pilot.@@N@@

namespace Jvm.RoadKit
open Sem ClassFile Op Lib Jvm.Stand Jvm.Free Jvm.LawKit
section New
variable {p : Program} {l : Launch} {e : Env} {R : Room} {s : State} {m : MethodId} {args : Array Value} {below : List Frame} {meth : Method} {c : Code} {T : State} {locs : List Loc} {cells slots : Nat}
theorem retI (X : Stand p l e R s m args below meth c T locs cells slots) (hx : p.tables.exec = Jvm.exec) {pc : Nat} {Ls : Array Slot} {z : Int32} {rest : List Value} (hret : meth.sig.returnType = some .int) (hd : decode c.code pc = .ok (.ireturn, 1)) {fs : List Frame}
    (hl : ∀ (f : JFrame) (acts : List Action), f.method = m → f.locked = none → f.entered = [] → (doReturn e (T.setTop f) acts (some (.int z))).1 = T.setFrames fs) : Steps p.tables e below (T.setTop (mkF m pc Ls (.int z :: rest))) (T.setFrames fs) := by
  have hm' : T.vm.method? m = some meth := X.method'
  have hn : narrow .int (.int z) = .int z := rfl
  show Steps p.tables e below (T.setTop { method := m, pc := pc, locals := Ls, stack := _ :: rest, locked := none }) _
  jvm_step X.here [X.here.top, hx, hd, hm', hret, hn]
  first | (intro acts; rw [hl _ acts rfl rfl rfl]) | rw [hl _ _ rfl rfl rfl]
  exact Steps.refl _
end New
end Jvm.RoadKit
namespace Jvm.Pilot.@@N@@
open Jvm Jvm.ClassFile Sem Op Lib Jvm.Free Jvm.Stand Jvm.LawKit Jvm.RoadKit Bundle Jvm.Pilot.@@N@@.Jvm.D
set_option maxRecDepth 65536
set_option maxHeartbeats 40000000
theorem ow {Z : State} {a0 : Array Value} (hw : ∀ d ∈ tables_1, d.before a0 Z = true) (i : Nat) {d : Jvm.Cond} (h : tables_1[i]? = some d) : d.before a0 Z = true := hw d (List.mem_of_getElem? h)
abbrev HW (a0 : Array Value) (Z : State) : Prop := ∀ d ∈ tables_1, d.before a0 Z = true
abbrev MF (l : Launch) (y : MethodName) (bytes : ByteArray) (ml : Nat) (ret : Option FieldType) (ws : List Jvm.Cond) (rm : Room) (Z : State) (as : Array Value) (h0 : Heap) (Q : Option Value → Heap → List Loc → Prop) : Prop := MetFree l y (head1 (Jvm.Cond.code y bytes ml ret :: ws) rm) (fun a U => a = as ∧ Z.Warmed39 U.vm ∧ U.heap = h0) (fun _ _ _ _ _ => True) (fun _ U o U' => ∃ v L, o = .returned v ∧ Q v U'.heap L ∧ FrameEnd U o U' L rm.cells rm.slots)
abbrev un : Slot := .unset
theorem gF {p : Program} {l : Launch} {e : Env} {R : Room} {s : State} {m : MethodId} {args : Array Value} {below : List Frame} {meth : Method} {c : Code} {T : State} {locs : List Loc} {cells slots : Nat} {Z : State} {a0 : Array Value} {h : Heap} (X : Stand p l e R s m args below meth c T locs cells slots) (hx : p.tables.exec = Jvm.exec) (hZ : Z.Warmed39 s.vm) {own O n d : String} {index : Nat} (hown : s.vm.findClass own = some m.cls) (w : (Jvm.Cond.fieldLink own index O n d).before a0 Z = true)
    (eT : T.heap = h) {a : Addr} {v : Value} (F : Fld Z h a O n d v) {g : JFrame} (hg : g.method = m) {rest : List Value} (hs : g.stack = .ref a :: rest) (hd : decode c.code g.pc = .ok (.getfield index, 3)) : ∃ T', Stand p l e R s m args below meth c T' locs cells slots ∧ T'.heap = h ∧ ∀ target, Steps p.tables e below (T'.setTop { g with pc := g.pc + 3, stack := v :: rest }) target → Steps p.tables e below (T.setTop g) target :=
  getF X hx hZ hown (host := "") (Or.inl w) Via.refl eT F hg hs hd
theorem pF {p : Program} {l : Launch} {e : Env} {R : Room} {s : State} {m : MethodId} {args : Array Value} {below : List Frame} {meth : Method} {c : Code} {T : State} {locs : List Loc} {cells slots : Nat} {Z : State} {a0 : Array Value} {h : Heap} (X : Stand p l e R s m args below meth c T locs cells slots) (hx : p.tables.exec = Jvm.exec) (hZ : Z.Warmed39 s.vm) {own O n d C : String} {index kk : Nat} {ty : FieldType} (hown : s.vm.findClass own = some m.cls) (w : (Jvm.Cond.fieldLink own index O n d).before a0 Z = true)
    (eT : T.heap = h) {a : Addr} {v old : Value} (F : Fld Z h a O n d old) (E : Exa Z h a C) (L : (Jvm.Cond.lays C O n d).before a0 Z = true ∨ ((Jvm.Cond.laysFinal C O n d).before a0 Z = true ∧ own = O ∧ meth.name = "<init>")) (wi : (Jvm.Cond.instantiable C kk).before a0 Z = true)
    (hty : parseFieldDescriptor d = some ty) (hn : narrow ty v = v) (hf : fits ty v = true) {g : JFrame} (hg : g.method = m) {rest : List Value} (hs : g.stack = v :: .ref a :: rest) (hd : decode c.code g.pc = .ok (.putfield index, 3)) :
    ∃ T' h', Stand p l e R s m args below meth c T' (locs ++ [⟨a, RoadKit.slotOf Z O n d⟩]) cells slots ∧ T'.heap = h' ∧ Wr h h' a (RoadKit.slotOf Z O n d) v ∧ ∀ target, Steps p.tables e below (T'.setTop { g with pc := g.pc + 3, stack := rest }) target → Steps p.tables e below (T.setTop g) target :=
  putF X hx hZ hown (host := "") (Or.inl w) Via.refl eT F E L wi hty hn hf hg hs hd
theorem fl {p : Program} {l : Launch} {e : Env} {R : Room} {s s₀ : State} {m : MethodId} {args : Array Value} {below : List Frame} {meth : Method} {c : Code} {T : State} {locs : List Loc} {cells slots dc ds k : Nat} {g : JFrame} {rest : List Value} {Q : Option Value → Heap → List Loc → Prop} (X : Stand p l e R s m args below meth c T locs cells slots) (h : ∃ (v : Option Value) (vm₁ : Vm) (B : Pt), s.WarmedH vm₁ ∧ Stand p l e R s m args below meth c B.U B.locs (B.cells) (B.slots) ∧ (∃ L, Q v B.U.heap L ∧ B.locs = locs ++ L ∧ B.cells = cells + dc ∧ B.slots = slots + ds) ∧ Steps p.tables e below s₀ (B.U.setTop { g with pc := g.pc + k, stack := v.toList ++ rest })) :
    ∃ (T' : State) (L : List Loc) (v : Option Value), Stand p l e R s m args below meth c T' (locs ++ L) (cells + dc) (slots + ds) ∧ Q v T'.heap L ∧ Steps p.tables e below s₀ (T'.setTop { g with pc := g.pc + k, stack := v.toList ++ rest }) := by
  obtain ⟨v, vm₁, ⟨T', L', k', n'⟩, -, X', ⟨L, hQ, l1, l2, l3⟩, st⟩ := h
  dsimp only [Pt.U, Pt.locs, Pt.cells, Pt.slots] at X' l1 l2 l3 st hQ
  subst l1 l2 l3
  exact ⟨T', L, v, X', hQ, st⟩
theorem flC {p : Program} {l : Launch} {e : Env} {R : Room} {s s₀ : State} {m : MethodId} {args : Array Value} {below : List Frame} {meth : Method} {c : Code} {T : State} {locs : List Loc} {cells slots dc ds k : Nat} {g : JFrame} {rest : List Value} {Q : Option Value → Heap → List Loc → Prop} (X : Stand p l e R s m args below meth c T locs cells slots) (h : ∃ (v : Option Value) (vm₁ : Vm) (B : Pt), s.WarmedH vm₁ ∧ Stand p l e R s m args below meth c B.U B.locs (B.cells) (B.slots) ∧ (∃ L, Q v B.U.heap L ∧ B.locs = locs ++ L ∧ B.cells = cells + dc ∧ B.slots = slots + ds) ∧ (∀ target, Steps p.tables e below (B.U.setTop { g with pc := g.pc + k, stack := v.toList ++ rest }) target → Steps p.tables e below s₀ target)) :
    ∃ (T' : State) (L : List Loc) (v : Option Value), Stand p l e R s m args below meth c T' (locs ++ L) (cells + dc) (slots + ds) ∧ Q v T'.heap L ∧ (∀ target, Steps p.tables e below (T'.setTop { g with pc := g.pc + k, stack := v.toList ++ rest }) target → Steps p.tables e below s₀ target) := by
  obtain ⟨v, vm₁, ⟨T', L', k', n'⟩, -, X', ⟨L, hQ, l1, l2, l3⟩, st⟩ := h
  dsimp only [Pt.U, Pt.locs, Pt.cells, Pt.slots] at X' l1 l2 l3 st hQ
  subst l1 l2 l3
  exact ⟨T', L, v, X', hQ, st⟩
theorem wf {n : Nat} : 2 * 0 + n ≤ n := by omega
theorem mI {α : Type} {l : List α} {a : α} {q : Prop} (i : Nat) (h : l[i]? = some a) : a ∈ l ∨ q := Or.inl (List.mem_of_getElem? h)
theorem mo {Z s : State} {a0 args : Array Value} (hZ : Z.Warmed39 s.vm) (hw : HW a0 Z) (i : Nat) {d : Jvm.Cond} (h : tables_1[i]? = some d) (hd : (d.onTables && d.keepsFace) = true := by first | rfl | simp [Cond.onTables, Cond.keepsFace, Cond.keeps, Cond.steady]) : d.before args s = true := mvT hZ (ow hw i h) hd
section Calls
variable {p : Program} {l : Launch} {e : Env} {R : Room} {s : State} {m : MethodId} {args : Array Value} {below : List Frame} {meth : Method} {c : Code} {T : State} {locs : List Loc} {cells slots : Nat} {Z : State} {a0 : Array Value} {h : Heap} {own C : String} {index count : Nat} {x y : MethodName} {bytes : ByteArray} {ml : Nat} {ret : Option FieldType} {rm : Room} {as : Array Value} {Q : Option Value → Heap → List Loc → Prop} {W : Nat} {b : Addr} {g : JFrame} {argsL rest : List Value}
theorem cV (X : Stand p l e R s m args below meth c T locs cells slots) (hx : p.tables.exec = Jvm.exec) (hZ : Z.Warmed39 s.vm) (hw : HW a0 Z) (hown : s.vm.findClass own = some m.cls) (j1 : Nat) (h1 : tables_1[j1]? = some (Jvm.Cond.methodLink own index y)) (j2 : Nat) (h2 : tables_1[j2]? = some (Jvm.Cond.declares y)) (j4 : Nat) (h4 : tables_1[j4]? = some (Jvm.Cond.selects C y y)) (j5 : Nat) (h5 : tables_1[j5]? = some (Jvm.Cond.instanceMethod y)) (j9 : Nat) (h9 : tables_1[j9]? = some (Jvm.Cond.code y bytes ml ret)) (j10 : Nat) (h10 : tables_1[j10]? = some (Jvm.Cond.initialized y.cls)) (hy : y.cls ≠ "java/lang/invoke/MethodHandle" ∧ y.cls ≠ "java/lang/invoke/VarHandle") (r : MF l y bytes ml ret [] rm Z as h Q) (hf : rm.frames + 1 ≤ R.frames) (hl : W + (ml + 11) + rm.locals ≤ R.locals) (E : Exa Z h b C) (eT : T.heap = h) (hg : g.method = m) (hsize : g.locals.size = c.maxLocals) (hlen : ∀ sig, parseMethodDescriptor y.desc = some sig → argsL.length = sig.parameters.length) (hstack : g.stack = argsL.reverse ++ .ref b :: rest) (hW : 2 * g.monitorRoom + (rest.map fun v => v.category).sum ≤ W) (hdg : decode c.code g.pc = .ok (.invokevirtual index, 3)) (has : (.ref b :: argsL).toArray = as) (hc : cells + rm.cells ≤ R.cells) (hs : slots + rm.slots ≤ R.slots) :
    ∃ (T' : State) (L : List Loc) (v : Option Value), Stand p l e R s m args below meth c T' (locs ++ L) (cells + rm.cells) (slots + rm.slots) ∧ Q v T'.heap L ∧ Steps p.tables e below (T.setTop g) (T'.setTop { g with pc := g.pc + 3, stack := v.toList ++ rest }) := by
  obtain ⟨cq, kq, qa, qb, qc⟩ := isOf hZ eT E
  exact fl X (X.virtualBack hx hown (mo hZ hw j1 h1) (mo hZ hw j2 h2) (notFace_of_selects (args := #[]) (mo hZ hw j4 h4)) (mo hZ hw j4 h4) (mo hZ hw j5 h5) hy (backOf (W := W) r hZ (ow hw j9 h9) (ow hw j10 h10) hf hl) qa qc hg hsize (Steps.refl _) hlen hstack hW hdg (fun _ _ => ⟨has, eT, hc, hs⟩))
theorem cP (X : Stand p l e R s m args below meth c T locs cells slots) (hx : p.tables.exec = Jvm.exec) (hZ : Z.Warmed39 s.vm) (hw : HW a0 Z) (hown : s.vm.findClass own = some m.cls) (hy1 : y.name = "<init>") (j1 : Nat) (h1 : tables_1[j1]? = some (Jvm.Cond.methodLink own index y)) (j5 : Nat) (h5 : tables_1[j5]? = some (Jvm.Cond.instanceMethod y)) (j9 : Nat) (h9 : tables_1[j9]? = some (Jvm.Cond.code y bytes ml none)) (j10 : Nat) (h10 : tables_1[j10]? = some (Jvm.Cond.initialized y.cls)) (hy : y.cls ≠ "java/lang/invoke/MethodHandle" ∧ y.cls ≠ "java/lang/invoke/VarHandle") (r : MF l y bytes ml none [] rm Z as h Q) (hf : rm.frames + 1 ≤ R.frames) (hl : W + (ml + 11) + rm.locals ≤ R.locals) (eT : T.heap = h) (hg : g.method = m) (hsize : g.locals.size = c.maxLocals) (hlen : ∀ sig, parseMethodDescriptor y.desc = some sig → argsL.length = sig.parameters.length) (hstack : g.stack = argsL.reverse ++ .ref b :: rest) (hW : 2 * g.monitorRoom + (rest.map fun v => v.category).sum ≤ W) (hdg : decode c.code g.pc = .ok (.invokespecial index, 3)) (has : (.ref b :: argsL).toArray = as) (hc : cells + rm.cells ≤ R.cells) (hs : slots + rm.slots ≤ R.slots) :
    ∃ (T' : State) (L : List Loc) (v : Option Value), Stand p l e R s m args below meth c T' (locs ++ L) (cells + rm.cells) (slots + rm.slots) ∧ Q v T'.heap L ∧ Steps p.tables e below (T.setTop g) (T'.setTop { g with pc := g.pc + 3, stack := v.toList ++ rest }) :=
  fl X (X.specialBack hx hy1 hown (mo hZ hw j1 h1) (mo hZ hw j5 h5) (mo hZ hw j9 h9) hy (backOf (W := W) r hZ (ow hw j9 h9) (ow hw j10 h10) hf hl) hg hsize (Steps.refl _) (a := b) hlen hstack hW hdg (fun _ _ => ⟨has, eT, hc, hs⟩))
theorem cS (X : Stand p l e R s m args below meth c T locs cells slots) (hx : p.tables.exec = Jvm.exec) (hZ : Z.Warmed39 s.vm) (hw : HW a0 Z) (hown : s.vm.findClass own = some m.cls) (j1 : Nat) (h1 : tables_1[j1]? = some (Jvm.Cond.methodLink own index y)) (j2 : Nat) (h2 : tables_1[j2]? = some (Jvm.Cond.static y)) (j10 : Nat) (h10 : tables_1[j10]? = some (Jvm.Cond.initialized y.cls)) (j9 : Nat) (h9 : tables_1[j9]? = some (Jvm.Cond.code y bytes ml ret)) (hy : y.cls ≠ "java/lang/invoke/MethodHandle" ∧ y.cls ≠ "java/lang/invoke/VarHandle") (r : MF l y bytes ml ret [] rm Z as h Q) (hf : rm.frames + 1 ≤ R.frames) (hl : W + (ml + 11) + rm.locals ≤ R.locals) (eT : T.heap = h) (hg : g.method = m) (hsize : g.locals.size = c.maxLocals) (hlen : ∀ sig, parseMethodDescriptor y.desc = some sig → argsL.length = sig.parameters.length) (hstack : g.stack = argsL.reverse ++ rest) (hW : 2 * g.monitorRoom + (rest.map fun v => v.category).sum ≤ W) (hdg : decode c.code g.pc = .ok (.invokestatic index, 3)) (has : argsL.toArray = as) (hc : cells + rm.cells ≤ R.cells) (hs : slots + rm.slots ≤ R.slots) :
    ∃ (T' : State) (L : List Loc) (v : Option Value), Stand p l e R s m args below meth c T' (locs ++ L) (cells + rm.cells) (slots + rm.slots) ∧ Q v T'.heap L ∧ (∀ target, Steps p.tables e below (T'.setTop { g with pc := g.pc + 3, stack := v.toList ++ rest }) target → Steps p.tables e below (T.setTop g) target) :=
  flC X (Jvm.LawKit.callS X hx hown (mo hZ hw j1 h1) (mo hZ hw j2 h2) (mo hZ hw j10 h10) (mo hZ hw j9 h9) hy (backOf (W := W) r hZ (ow hw j9 h9) (ow hw j10 h10) hf hl) hg hsize hlen hstack hW hdg (fun _ _ => ⟨has, eT, hc, hs⟩))
theorem fin {y0 : MethodName} {b0 : ByteArray} {n0 : Nat} {S0 : Spec} {s₁ T0 : State} {as : Array Value} {Q : Option Value → Heap → List Loc → Prop} (Bd : BodyLoose p l y0 S0 b0 n0 ret e s m as below meth c s₁) (X : Stand p l e R s m args below meth c T locs cells slots) (eT : T.heap = h) (v : Option Value) (hv : ret = none → v = none) (hQ : Q v h locs) (hc : cells ≤ rm.cells) (hs : slots ≤ rm.slots)
    (H : ∀ fs, (∀ (f : JFrame) (acts : List Action), f.method = m → f.locked = none → f.entered = [] → (doReturn e (T.setTop f) acts v).1 = T.setFrames fs) → Steps p.tables e below T0 (T.setFrames fs)) :
    ∃ s₂ o, Steps p.tables e below T0 s₂ ∧ s₂.status = .running ∧ Ended s₂ below o ∧ (∃ v L, o = .returned v ∧ Q v s₂.heap L ∧ FrameEnd s o s₂ L rm.cells rm.slots) := by
  obtain ⟨fs, hr, hrun, hended, hW, hsame⟩ := X.leave (v := v) fun h => hv (Bd.returns.symm.trans h)
  exact ⟨_, _, H fs hr, hrun, hended, _, _, rfl, by show Q v T.heap _; rw [eT]; exact hQ, ⟨_, rfl⟩, hW, hsame.mono hc hs⟩
abbrev rM (f c s l : Nat) : Room := { frames := f, cells := c, slots := s, locals := l }
end Calls
section Steps2
variable {p : Program} {l : Launch} {e : Env} {R : Room} {s : State} {m : MethodId} {args : Array Value} {below : List Frame} {meth : Method} {c : Code} {T t : State} {locs : List Loc} {cells slots : Nat} {b : ByteArray} {g : JFrame}
theorem aN (X : Stand p l e R s m args below meth c T locs cells slots) (hx : p.tables.exec = Jvm.exec) (hby : c.code = b) {k : Fin 4} {v : Value} (hd : decode b g.pc = .ok (.aload_n k, 1)) (hl : g.locals[k.val]? = some (.val v)) (hv : v.isRef = true) (hr : Steps p.tables e below (T.setTop { g with pc := g.pc + 1, stack := v :: g.stack }) t) (hg : g.method = m := by rfl) : Steps p.tables e below (T.setTop g) t := XS.aloadN X.here hx hg (hb hby hd) hl hv hr
theorem aL (X : Stand p l e R s m args below meth c T locs cells slots) (hx : p.tables.exec = Jvm.exec) (hby : c.code = b) {k : Nat} {v : Value} (hd : decode b g.pc = .ok (.aload k, 2)) (hl : g.locals[k]? = some (.val v)) (hv : v.isRef = true) (hr : Steps p.tables e below (T.setTop { g with pc := g.pc + 2, stack := v :: g.stack }) t) (hg : g.method = m := by rfl) : Steps p.tables e below (T.setTop g) t := XS.aload X.here hx hg (hb hby hd) hl hv hr
theorem iN (X : Stand p l e R s m args below meth c T locs cells slots) (hx : p.tables.exec = Jvm.exec) (hby : c.code = b) {k : Fin 4} {v : Int32} (hd : decode b g.pc = .ok (.iload_n k, 1)) (hl : g.locals[k.val]? = some (.val (.int v))) (hr : Steps p.tables e below (T.setTop { g with pc := g.pc + 1, stack := .int v :: g.stack }) t) (hg : g.method = m := by rfl) : Steps p.tables e below (T.setTop g) t := XS.iloadN X.here hx hg (hb hby hd) hl hr
theorem iL (X : Stand p l e R s m args below meth c T locs cells slots) (hx : p.tables.exec = Jvm.exec) (hby : c.code = b) {k : Nat} {v : Int32} (hd : decode b g.pc = .ok (.iload k, 2)) (hl : g.locals[k]? = some (.val (.int v))) (hr : Steps p.tables e below (T.setTop { g with pc := g.pc + 2, stack := .int v :: g.stack }) t) (hg : g.method = m := by rfl) : Steps p.tables e below (T.setTop g) t := XS.iload X.here hx hg (hb hby hd) hl hr
theorem iC (X : Stand p l e R s m args below meth c T locs cells slots) (hx : p.tables.exec = Jvm.exec) (hby : c.code = b) {i : Int} (hd : decode b g.pc = .ok (.iconst i, 1)) (hr : Steps p.tables e below (T.setTop { g with pc := g.pc + 1, stack := .int (Int32.ofInt i) :: g.stack }) t) (hg : g.method = m := by rfl) : Steps p.tables e below (T.setTop g) t := XS.iconst X.here hx hg (hb hby hd) hr
theorem retA (X : Stand p l e R s m args below meth c T locs cells slots) (hx : p.tables.exec = Jvm.exec) {ty : FieldType} (hret : meth.sig.returnType = some ty) (ht : ty.isReference = true) {v : Value} {rest : List Value} {pc : Nat} {Ls : Array Slot} (hv : v.isRef = true) (hd : decode c.code pc = .ok (.areturn, 1)) {fs : List Frame}
    (hl : ∀ (f : JFrame) (acts : List Action), f.method = m → f.locked = none → f.entered = [] → (doReturn e (T.setTop f) acts (some v)).1 = T.setFrames fs) : Steps p.tables e below (T.setTop (mkF m pc Ls (v :: rest))) (T.setFrames fs) := by
  have hm' : T.vm.method? m = some meth := X.method'
  show Steps p.tables e below (T.setTop { method := m, pc := pc, locals := Ls, stack := v :: rest, locked := none }) _
  jvm_step X.here [X.here.top, hx, hd, hm', hret, hv, ht]
  first | (intro acts; rw [hl _ acts rfl rfl rfl]) | rw [hl _ _ rfl rfl rfl]
  exact Steps.refl _
end Steps2
abbrev QT : Type := Option Value → Heap → List Loc → Prop
abbrev dk (b : ByteArray) (pc : Nat) (i : Instr) (n : Nat) : Prop := decode b pc = .ok (i, n)
theorem pq {y : MethodName} (h : plainName y.cls = true) : plainFor y = true := plainFor_of_name h
variable {p : Program} {l : Launch} {e : Env} {R : Room} {s : State} {m : MethodId} {args : Array Value} {below : List Frame} {meth : Method} {c : Code} {T0 : State} {locs : List Loc} {cells slots : Nat} {Z : State} {a0 : Array Value} {h0 : Heap} {n0 : Nat}
abbrev cP22_2 := prog_22_method_2_code
abbrev cP22_6 := prog_22_method_6_code
abbrev cJ42_80 := jdk_42_method_80_code
abbrev cJ42_154 := jdk_42_method_154_code
abbrev cJ43_22 := jdk_43_method_22_code
abbrev cJ43_4 := jdk_43_method_4_code
abbrev cJ29_69 := jdk_29_method_69_code
abbrev cJ43_23 := jdk_43_method_23_code
abbrev cJ42_92 := jdk_42_method_92_code
abbrev cJ42_158 := jdk_42_method_158_code
abbrev cJ41_12 := jdk_41_method_12_code
abbrev cJ43_47 := jdk_43_method_47_code
abbrev cJ65_132 := jdk_65_method_132_code
abbrev cJ65_133 := jdk_65_method_133_code
abbrev cJ42_151 := jdk_42_method_151_code
abbrev cJ42_139 := jdk_42_method_139_code
abbrev cJ43_46 := jdk_43_method_46_code
abbrev SG (p : Program) (l : Launch) (e : Env) (R : Room) (s : State) (m : MethodId) (args : Array Value) (below : List Frame) (meth : Method) (c : Code) (T0 : State) (locs : List Loc) (cells slots : Nat) (Z : State) (a0 : Array Value) (h0 : Heap) (n0 A B C D : Nat) : Prop := Stand p l e R s m args below meth c T0 locs cells slots ∧ p.tables.exec = Jvm.exec ∧ Z.Warmed39 s.vm ∧ HW a0 Z ∧ c.code = code ∧ c.maxLocals = 9 ∧ s.vm.findClass "com/example/novation/novation/CsvFieldsPinLaw" = some m.cls ∧ T0.heap = h0 ∧ Old Z n0 h0 ∧ Fr n0 locs ∧ cells + A ≤ R.cells ∧ slots + B ≤ R.slots ∧ C ≤ R.frames ∧ D ≤ R.locals
theorem own_in {l : Launch} {y : MethodName} {bytes : ByteArray} {ml : Nat} {ret : Option FieldType} {ws : List Jvm.Cond} {rm : Room} {Z : State} {as : Array Value} {h0 : Heap} {Q : Array Value → State → Outcome → State → Prop} (pn : plainFor y = true) (L0 : Array Slot) (ef : ∀ m, entryFrame m as ml = mkF m 0 L0 [])
    (H : ∀ (p : Program) (e : Env) (s : State) (m : MethodId) (below : List Frame) (meth : Method) (c : Code) (s₁ : State), BodyLoose p l y (head1 (Jvm.Cond.code y bytes ml ret :: ws) rm) bytes ml ret e s m as below meth c s₁ → p.tables.exec = Jvm.exec → c.code = bytes → c.maxLocals = ml → s.vm.findClass y.cls = some m.cls → meth.name = y.name → Z.Warmed39 s.vm → s₁.heap = h0 → Stand p l e rm s m as below meth c s₁ [] 0 0 →
      ∃ s₂ o, Steps p.tables e below (s₁.setTop (mkF m 0 L0 [])) s₂ ∧ s₂.status = .running ∧ Ended s₂ below o ∧ Q as s o s₂) :
    MetFree l y (head1 (Jvm.Cond.code y bytes ml ret :: ws) rm) (fun a U => a = as ∧ Z.Warmed39 U.vm ∧ U.heap = h0) (fun _ _ _ _ _ => True) Q := by
  refine MetFree.of_bodySF pn hisR ?_
  intro p e s m args below meth c s₁ Bd hml0 hP hK
  obtain ⟨rfl, hZ, hh⟩ := hP
  obtain ⟨s₂, o, h1, h2⟩ := H p e s m below meth c s₁ Bd Bd.exec Bd.bytes hml0 (findClass_of_methodNamed Bd.named) (name_of_methodNamed Bd.named Bd.method).1 hZ (by rw [← hh, Bd.state]; rfl) (Stand.of_body Bd)
  exact ⟨s₂, o, castTop (ef m) h1, h2⟩
abbrev St (p : Program) (e : Env) (below : List Frame) (T : State) (m : MethodId) (pc : Nat) (Ls : Array Slot) (st : List Value) (t : State) : Prop := Steps p.tables e below (T.setTop (mkF m pc Ls st)) t
theorem own_i8 (x:Int32) : x.toInt8.toInt32.toInt8.toInt32 = x.toInt8.toInt32 := by simp
theorem own_narb (x:Int32) : nar .byte (x.toInt8.toInt32) = x.toInt8.toInt32 := by simp [nar]
def Base (Z : State) (zCOMPACT_STRINGS:Int32) (vF : Value) : Prop := Sta Z Z.heap "java/lang/String" "COMPACT_STRINGS" "Z" (.int zCOMPACT_STRINGS) ∧ ¬ (zCOMPACT_STRINGS = (0:Int32)) ∧ Sta Z Z.heap "jdk/internal/util/Preconditions" "SIOOBE_FORMATTER" "Ljava/util/function/BiFunction;" vF ∧ vF.isRef = true
abbrev EL0 : List (String × Nat) := consts_1
abbrev MFH (l : Launch) (y : MethodName) (bytes : ByteArray) (ml : Nat) (ret : Option FieldType) (ws : List Jvm.Cond) (rm : Room) (Z : State) (as : Array Value) (h0 : Heap) (Q : Option Value → Heap → List Loc → Prop) : Prop := MetFree l y (head1 (Jvm.Cond.code y bytes ml ret :: ws) rm) (fun a U => a = as ∧ Z.Warmed39 U.vm ∧ U.heap = h0 ∧ CHv Z EL0 U.vm h0) (fun _ _ _ _ _ => True) (fun _ U o U' => ∃ v L, o = .returned v ∧ Q v U'.heap L ∧ CHr Z EL0 U.vm U.heap U'.vm U'.heap ∧ ReturnedEndW U o U' L rm.cells rm.slots)
theorem own_lit0 : (∀ c ∈ "".toList, c.toNat < 256) ∧ "".toList.map (fun c => Value.int (Jvm.Lit.byteI c.toNat.toUInt16)) = [] := ⟨by simp, rfl⟩
theorem own_inH {l : Launch} {y : MethodName} {bytes : ByteArray} {ml : Nat} {ret : Option FieldType} {ws : List Jvm.Cond} {rm : Room} {Z : State} {as : Array Value} {h0 : Heap} {Q : Array Value → State → Outcome → State → Prop} (pn : plainFor y = true) (L0 : Array Slot) (ef : ∀ m, entryFrame m as ml = mkF m 0 L0 [])
    (H : ∀ (p : Program) (e : Env) (s : State) (m : MethodId) (below : List Frame) (meth : Method) (c : Code) (s₁ : State), BodyLoose p l y (head1 (Jvm.Cond.code y bytes ml ret :: ws) rm) bytes ml ret e s m as below meth c s₁ → p.tables.exec = Jvm.exec → c.code = bytes → c.maxLocals = ml → s.vm.findClass y.cls = some m.cls → meth.name = y.name → Z.Warmed39 s.vm → s.heap = h0 → CHr Z EL0 s.vm h0 s.vm h0 → s₁.heap = h0 → Stand p l e rm s m as below meth c s₁ [] 0 0 →
      ∃ s₂ o, Steps p.tables e below (s₁.setTop (mkF m 0 L0 [])) s₂ ∧ s₂.status = .running ∧ Ended s₂ below o ∧ Q as s o s₂) :
    MetFree l y (head1 (Jvm.Cond.code y bytes ml ret :: ws) rm) (fun a U => a = as ∧ Z.Warmed39 U.vm ∧ U.heap = h0 ∧ CHv Z EL0 U.vm h0) (fun _ _ _ _ _ => True) Q := by
  refine MetFree.of_bodySF pn hisR ?_
  intro p e s m args below meth c s₁ Bd hml0 hP hK
  obtain ⟨rfl, hZ, hh, hC⟩ := hP
  obtain ⟨s₂, o, h1, h2⟩ := H p e s m below meth c s₁ Bd Bd.exec Bd.bytes hml0 (findClass_of_methodNamed Bd.named) (name_of_methodNamed Bd.named Bd.method).1 hZ hh (CHr.refl hC) (by rw [← hh, Bd.state]; rfl) (Stand.of_body Bd)
  exact ⟨s₂, o, castTop (ef m) h1, h2⟩
section HeldL
variable {p : Program} {l : Launch} {e : Env} {R : Room} {s s₀ : State} {m : MethodId} {args : Array Value} {below : List Frame} {meth : Method} {c : Code} {T : State} {locs : List Loc} {cells slots : Nat} {Z : State} {a0 : Array Value} {h h0 : Heap} {vm : Vm} {Q : Option Value → Heap → List Loc → Prop} {y0 : MethodName} {S0 : Spec} {b0 : ByteArray} {l0 k0 : Nat} {ret : Option FieldType} {as : Array Value} {rm : Room} {s₁ T0 : State}
theorem finH (Bd : BodyLoose p l y0 S0 b0 l0 ret e s m as below meth c s₁) (X : Stand p l e R (s.setVm vm) m args below meth c T locs cells slots) (hZ : Z.Warmed39 vm) (hEL : EW Z a0 EL0) (C : CHr Z EL0 s.vm h0 vm h) (hh : s.heap = h0) (eT : T.heap = h) (hS : s.Since vm k0) (hk : k0 ≤ h.size) (v : Option Value) (hv : ret = none → v = none) (hQ : Q v h locs) (hc : cells ≤ rm.cells) (hs : slots ≤ rm.slots)
    (H : ∀ fs, (∀ (f : JFrame) (acts : List Action), f.method = m → f.locked = none → f.entered = [] → (doReturn e (T.setTop f) acts v).1 = T.setFrames fs) → Steps p.tables e below T0 (T.setFrames fs)) :
    ∃ s₂ o, Steps p.tables e below T0 s₂ ∧ s₂.status = .running ∧ Ended s₂ below o ∧ (∃ v L, o = .returned v ∧ Q v s₂.heap L ∧ CHr Z EL0 s.vm s.heap s₂.vm s₂.heap ∧ ReturnedEndW s o s₂ L rm.cells rm.slots) := by
  subst eT hh
  obtain ⟨fs, hr, hrun, hended, hE⟩ := Stand.leaveW (s := s) (vm₁ := vm) X hS hk (v := v) fun h => hv (Bd.returns.symm.trans h)
  exact ⟨_, _, H fs hr, hrun, hended, _, _, rfl, hQ, (show CHr Z EL0 s.vm s.heap T.vm T.heap from C.trans (CHv.at X hZ hEL C.1)), hE.1, hE.2.1, hE.2.2.1, hE.2.2.2.mono hc hs⟩
theorem flH {dc ds k : Nat} {g : JFrame} {rest : List Value} (X : Stand p l e R s m args below meth c T locs cells slots) (hq : ∃ (v : Option Value) (vm₁ : Vm) (B : Pt), s.WarmedH vm₁ ∧ Stand p l e R (s.setVm B.U.vm) m args below meth c B.U B.locs (B.cells) (B.slots) ∧ s.Since B.U.vm B.U.heap.size ∧ T.heap.size ≤ B.U.heap.size ∧ (∃ L, Q v B.U.heap L ∧ B.locs = locs ++ L ∧ B.cells = cells + dc ∧ B.slots = slots + ds ∧ CHr Z EL0 vm h B.U.vm B.U.heap) ∧ Steps p.tables e below s₀ (B.U.setTop { g with pc := g.pc + k, stack := v.toList ++ rest })) :
    ∃ (T' : State) (L : List Loc) (v : Option Value), Stand p l e R (s.setVm T'.vm) m args below meth c T' (locs ++ L) (cells + dc) (slots + ds) ∧ s.Since T'.vm T'.heap.size ∧ T.heap.size ≤ T'.heap.size ∧ CHr Z EL0 vm h T'.vm T'.heap ∧ Q v T'.heap L ∧ Steps p.tables e below s₀ (T'.setTop { g with pc := g.pc + k, stack := v.toList ++ rest }) := by
  obtain ⟨v, vm₁, ⟨T', _, _, _⟩, -, X', q1, q2, ⟨L, hQ, l1, l2, l3, hC⟩, st⟩ := hq
  dsimp only [Pt.U, Pt.locs, Pt.cells, Pt.slots] at X' l1 l2 l3 st hQ hC
  subst l1 l2 l3
  exact ⟨T', L, v, X', q1, q2, hC, hQ, st⟩
theorem own_safeN {EL : List (String × Nat)} {x : Addr} (hal : Z.vm.Alike vm) (E : Exa Z h x "java/lang/String") (F : Fld Z h x "java/lang/String" "value" "[B" .null) : Safe Z EL vm h x := fun B => by
  obtain ⟨p, -, u, a, -, q, -, F', rfl | rfl⟩ := B
  · obtain ⟨cS, ⟨⟨s1, s2, s3, ⟨cv, kv, iv, s4, s4'⟩, -, s6, -, s8, -⟩, hfS, hcS⟩, -⟩ := F'
    obtain ⟨kv', z4⟩ := ff_back (U := Wst Z vm h) hal s4
    have G : Fld Z h q.sa "java/lang/String" "value" "[B" (.ref q.sd) := ⟨q.sC, cv, kv', iv, q.fSV, s1, z4, s6, s2, s3, by rw [← hal.assignable]; exact s4', s8⟩
    exact Fld.ne F G nofun rfl
  · obtain ⟨cell, k, e1, e2, e3, -, -⟩ := E
    cases (show h[q.sd]? = some q.SA from F'.hd).symm.trans e1
    obtain ⟨cS, -, -, f, -⟩ := F'
    have f : vm.findClass "[B" = some q.SA.cls := f
    rw [hal.findClass] at f
    obtain ⟨k1, q1, q2⟩ := Vm.findClass_spec f
    obtain ⟨k2, q3, q4⟩ := Vm.findClass_spec e2
    cases q1.symm.trans q3
    exact absurd (q2.symm.trans q4) (by decide)
theorem own_neAA {a b : Addr} {k k' : ClassId} {ty ty' : FieldType} {z z' : Int32} {vs vs' : List Value} {d d' : Value} (A : Arv Z h a k ty z vs d) (B : Arv Z h b k' ty' z' vs' d') (q : ty ≠ ty') : a ≠ b := fun e => by
  subst e
  obtain ⟨c1, ⟨a1, ⟨-, k1, hk1, m1, hq1⟩, -⟩, -⟩ := A
  obtain ⟨c2, ⟨a2, ⟨-, k2, hk2, m2, hq2⟩, -⟩, -⟩ := B
  cases a1.symm.trans a2
  cases hk1.symm.trans hk2
  have e := hq1.symm.trans hq2
  injection e with _ e; exact q e
end HeldL
theorem own_EW {Z : State} {a0 : Array Value} (hw : HW a0 Z) : EW Z a0 EL0 := EW.cons (ow hw 8 rfl) (by simp) (EW.cons (ow hw 129 rfl) (by simp) EW.nil)
def own_tn (cs : List Int32) : Int32 := Int32.ofNat cs.length
def own_fx : List Int32 → Nat → Int32
  | [], _ => -1
  | c :: cs, j => if c = 44 then Int32.ofNat j else own_fx cs (j + 1)
def own_ix (cs : List Int32) (b:Int32) : Int32 := own_fx (cs.drop b.toNatClampNeg) b.toNatClampNeg
def own_sub (cs : List Int32) (b e:Int32) : List Int32 := (cs.drop b.toNatClampNeg).take (e.toNatClampNeg - b.toNatClampNeg)
def own_cat (p : List Int32) : List (List Int32) → List (List Int32)
  | [] => [p]
  | g :: gs => (p ++ g) :: gs
def own_sp : List Int32 → List (List Int32)
  | [] => [[]]
  | c :: cs => if c = 44 then [] :: own_sp cs else own_cat [c] (own_sp cs)
def own_po (cs : List Int32) (b:Int32) : Prop := ¬ b < 0 ∧ b.toNatClampNeg ≤ cs.length
def own_rng (cs : List Int32) (b e:Int32) : Prop := ¬ b < 0 ∧ ¬ e < 0 ∧ b.toNatClampNeg ≤ e.toNatClampNeg ∧ e.toNatClampNeg ≤ cs.length
theorem own_nn {k : Nat} (h : k < 2 ^ 31) : (Int32.ofNat k).toNatClampNeg = k ∧ ¬ Int32.ofNat k < 0 ∧ (Int32.ofNat k).toInt = k := by
  have e : (Int32.ofNat k).toInt = k := Int32.toInt_ofNat_of_lt h
  refine ⟨by rw [Int32.toNatClampNeg, e]; rfl, ?_, e⟩
  rw [Int32.lt_iff_toInt_lt, e]
  have : (0:Int32).toInt = 0 := rfl
  omega
theorem own_ti {x : Int32} (h : ¬ x < 0) : x.toInt = x.toNatClampNeg := by
  rw [Int32.lt_iff_toInt_lt] at h
  have : (0:Int32).toInt = 0 := rfl
  rw [Int32.toNatClampNeg]; omega
theorem own_eqi {x y : Int32} (h : x.toInt = y.toInt) : x = y := Int32.toInt_inj.mp h
theorem own_fxs : ∀ (cs : List Int32) (j : Nat), j + cs.length < 2 ^ 31 → (own_fx cs j = -1 ∧ own_sp cs = [cs]) ∨ ∃ i, i < cs.length ∧ own_fx cs j = Int32.ofNat (j + i) ∧ own_sp cs = cs.take i :: own_sp (cs.drop (i + 1))
  | [], _, _ => Or.inl ⟨rfl, rfl⟩
  | c :: cs, j, h => by
    by_cases q : c = 44
    · refine Or.inr ⟨0, by simp, ?_, ?_⟩
      · rw [own_fx, if_pos q]; rfl
      · rw [own_sp, if_pos q]; rfl
    · have hl : (c :: cs).length = cs.length + 1 := rfl
      rw [own_fx, if_neg q, own_sp, if_neg q]
      rcases own_fxs cs (j + 1) (by omega) with ⟨a, b⟩ | ⟨i, a, b, d⟩
      · exact Or.inl ⟨a, by rw [b]; rfl⟩
      · refine Or.inr ⟨i + 1, by omega, by rw [b]; congr 1; omega, by rw [d]; rfl⟩
theorem own_neg {x : Int32} (h : x = -1) : x < 0 := by rw [h]; decide
theorem own_spN {cs : List Int32} {b : Int32} (hl : cs.length ≤ 6) (hb : own_po cs b) (h : own_ix cs b < 0) : own_sp (cs.drop b.toNatClampNeg) = [own_sub cs b (own_tn cs)] := by
  have hd : (cs.drop b.toNatClampNeg).length = cs.length - b.toNatClampNeg := List.length_drop
  have := hb.2
  rcases own_fxs (cs.drop b.toNatClampNeg) b.toNatClampNeg (by omega) with ⟨_, q⟩ | ⟨i, hi, q, _⟩
  · rw [q, own_sub, own_tn, (own_nn (by omega)).1, List.take_of_length_le (by omega)]
  · exfalso
    rw [own_ix, q] at h
    exact (own_nn (k := b.toNatClampNeg + i) (by omega)).2.1 h
theorem own_spS {cs : List Int32} {b : Int32} (hl : cs.length ≤ 6) (hb : own_po cs b) (h : ¬ own_ix cs b < 0) :
    own_sp (cs.drop b.toNatClampNeg) = own_sub cs b (own_ix cs b) :: own_sp (cs.drop (own_ix cs b + 1).toNatClampNeg) ∧ own_rng cs b (own_ix cs b) ∧ own_po cs (own_ix cs b + 1) ∧ b.toNatClampNeg < (own_ix cs b + 1).toNatClampNeg := by
  have hd : (cs.drop b.toNatClampNeg).length = cs.length - b.toNatClampNeg := List.length_drop
  have hb2 := hb.2
  rcases own_fxs (cs.drop b.toNatClampNeg) b.toNatClampNeg (by omega) with ⟨q, _⟩ | ⟨i, hi, q, d⟩
  · exact absurd (own_neg q) h
  · have e : own_ix cs b = Int32.ofNat (b.toNatClampNeg + i) := q
    have n1 := own_nn (k := b.toNatClampNeg + i) (by omega)
    have n2 := own_nn (k := b.toNatClampNeg + i + 1) (by omega)
    have e2 : own_ix cs b + 1 = Int32.ofNat (b.toNatClampNeg + i + 1) := by
      rw [e]; exact (Int32.ofNat_add _ 1).symm
    refine ⟨?_, ⟨hb.1, by rw [e]; exact n1.2.1, by rw [e, n1.1]; omega, by rw [e, n1.1]; omega⟩, ⟨by rw [e2]; exact n2.2.1, by rw [e2, n2.1]; omega⟩, by rw [e2, n2.1]; omega⟩
    rw [d, e2, n2.1, own_sub, e, n1.1, List.drop_drop]
    congr 2
    omega
theorem own_po0 (cs : List Int32) : own_po cs 0 := ⟨by decide, Nat.zero_le _⟩
theorem own_rngN {cs : List Int32} {b : Int32} (hl : cs.length ≤ 6) (hb : own_po cs b) : own_rng cs b (own_tn cs) := by
  have n := own_nn (k := cs.length) (by omega)
  exact ⟨hb.1, n.2.1, by rw [own_tn, n.1]; exact hb.2, by rw [own_tn, n.1]; exact Nat.le_refl _⟩
-- steps
def own_n2 (fs : List (List Int32)) : Int32 := Int32.ofNat fs.length
def own_nth (fs : List (List Int32)) (j:Int32) : List Int32 := fs.getD j.toNatClampNeg []
def own_inb (fs : List (List Int32)) (j:Int32) : Prop := ¬ j < 0 ∧ j.toNatClampNeg < fs.length
def own_ok (fs : List (List Int32)) (f o ch:Int32) : Prop := own_inb fs f ∧ f < own_n2 fs ∧ (ch = 44 → own_tn (own_nth fs f) = o) ∧ (¬ ch = 44 → o < own_tn (own_nth fs f) ∧ ¬ o < 0 ∧ o.toNatClampNeg < (own_nth fs f).length ∧ (own_nth fs f).getD o.toNatClampNeg 0 = ch)
def own_nf (f ch:Int32) : Int32 := if ch = 44 then f + 1 else f
def own_no (o ch:Int32) : Int32 := if ch = 44 then 0 else o + 1
def own_Inv (fs : List (List Int32)) (cs : List Int32) (f o:Int32) : Prop := ∃ (D : List (List Int32)) (p : List Int32), fs = D ++ own_cat p (own_sp cs) ∧ f = Int32.ofNat D.length ∧ o = Int32.ofNat p.length ∧ D.length + p.length + cs.length ≤ 6 ∧ fs.length ≤ 7
theorem own_spl : ∀ cs : List Int32, (own_sp cs).length ≤ cs.length + 1 ∧ own_sp cs ≠ []
  | [] => ⟨by decide, by decide⟩
  | c :: cs => by
    have h := own_spl cs
    rw [own_sp]
    split
    · exact ⟨by simp only [List.length_cons]; omega, by simp⟩
    · cases q : own_sp cs with
      | nil => exact absurd q h.2
      | cons g gs => rw [q] at h; exact ⟨by simp only [own_cat, List.length_cons] at h ⊢; omega, by simp [own_cat]⟩
theorem own_cat0 (fs : List (List Int32)) (h : fs ≠ []) : own_cat [] fs = fs := by
  cases fs with
  | nil => exact absurd rfl h
  | cons g gs => rfl
theorem own_cat2 (p q : List Int32) (fs : List (List Int32)) : own_cat p (own_cat q fs) = own_cat (p ++ q) fs := by
  cases fs with
  | nil => rfl
  | cons g gs => simp [own_cat]
theorem own_nthD (D : List (List Int32)) (g : List Int32) (gs : List (List Int32)) (h : D.length < 2 ^ 31) : own_nth (D ++ g :: gs) (Int32.ofNat D.length) = g := by
  rw [own_nth, (own_nn h).1]; simp
theorem own_inv0 (cs : List Int32) (h : cs.length ≤ 6) : own_Inv (own_sp cs) cs 0 0 := ⟨[], [], by rw [own_cat0 _ (own_spl cs).2]; rfl, rfl, rfl, by simpa using h, by have := (own_spl cs).1; omega⟩
theorem own_invS {fs : List (List Int32)} {c : Int32} {cs : List Int32} {f o : Int32} (h : own_Inv fs (c :: cs) f o) : own_ok fs f o c ∧ own_Inv fs cs (own_nf f c) (own_no o c) := by
  obtain ⟨D, p, rfl, rfl, rfl, _, h2⟩ := h
  have hl : (c :: cs).length = cs.length + 1 := rfl
  have nD := own_nn (k := D.length) (by omega)
  have np := own_nn (k := p.length) (by omega)
  by_cases q : c = 44
  · have e : own_cat p (own_sp (c :: cs)) = p :: own_sp cs := by rw [own_sp, if_pos q]; simp [own_cat]
    rw [e] at h2 ⊢
    have hlen : (D ++ p :: own_sp cs).length = D.length + 1 + (own_sp cs).length := by simp only [List.length_append, List.length_cons]; omega
    refine ⟨⟨⟨nD.2.1, by rw [nD.1]; omega⟩, ?_, fun _ => by rw [own_nthD _ _ _ (by omega)]; rfl, fun z => absurd q z⟩, D ++ [p], [], by rw [own_cat0 _ (own_spl cs).2]; simp, ?_, by rw [own_no, if_pos q]; rfl, by simp only [List.length_append, List.length_cons, List.length_nil]; omega, h2⟩
    · rw [own_n2, Int32.lt_iff_toInt_lt, nD.2.2, (own_nn (by omega)).2.2]; omega
    · rw [own_nf, if_pos q]; simp only [List.length_append, List.length_cons, List.length_nil]; exact (Int32.ofNat_add _ 1).symm
  · cases hs : own_sp cs with
    | nil => exact absurd hs (own_spl cs).2
    | cons g gs =>
      have e : own_cat p (own_sp (c :: cs)) = (p ++ c :: g) :: gs := by rw [own_sp, if_neg q, hs]; simp [own_cat]
      rw [e] at h2 ⊢
      have hlen : (D ++ (p ++ c :: g) :: gs).length = D.length + 1 + gs.length := by simp only [List.length_append, List.length_cons]; omega
      have hg : g.length ≤ cs.length := by
        have : ∀ us : List Int32, ∀ g ∈ own_sp us, g.length ≤ us.length := by
          intro us
          induction us with
          | nil => intro g hg; rw [own_sp, List.mem_singleton] at hg; rw [hg]; exact Nat.le_refl _
          | cons u us ih =>
            intro g hg
            rw [own_sp] at hg
            split at hg
            · rcases List.mem_cons.mp hg with rfl | hg
              · simp
              · have := ih g hg; simp only [List.length_cons]; omega
            · cases q : own_sp us with
              | nil => exact absurd q (own_spl us).2
              | cons v vs =>
                rw [q] at hg ih
                rcases List.mem_cons.mp hg with rfl | hg
                · have := ih v (List.mem_cons_self ..); simp only [List.length_append, List.length_cons, List.length_nil]; omega
                · have := ih g (List.mem_cons_of_mem _ hg); simp only [List.length_cons]; omega
        exact this cs g (by rw [hs]; exact List.mem_cons_self ..)
      have hL : (p ++ c :: g).length = p.length + 1 + g.length := by simp only [List.length_append, List.length_cons]; omega
      refine ⟨⟨⟨nD.2.1, by rw [nD.1]; omega⟩, ?_, fun z => absurd z q, fun _ => ?_⟩, D, p ++ [c], by rw [hs]; simp [own_cat], by rw [own_nf, if_neg q], ?_, by simp only [List.length_append, List.length_cons, List.length_nil]; omega, h2⟩
      · rw [own_n2, Int32.lt_iff_toInt_lt, nD.2.2, (own_nn (by omega)).2.2]; omega
      · rw [own_nthD _ _ _ (by omega)]
        refine ⟨?_, np.2.1, by rw [np.1, hL]; omega, by rw [np.1]; simp⟩
        rw [own_tn, Int32.lt_iff_toInt_lt, np.2.2, (own_nn (by omega)).2.2, hL]; omega
      · rw [own_no, if_neg q]; simp only [List.length_append, List.length_cons, List.length_nil]; exact (Int32.ofNat_add _ 1).symm
theorem own_invE {fs : List (List Int32)} {f o : Int32} (h : own_Inv fs [] f o) : own_inb fs f ∧ f = own_n2 fs - 1 ∧ own_tn (own_nth fs f) = o := by
  obtain ⟨D, p, rfl, rfl, rfl, _, h2⟩ := h
  have nD := own_nn (k := D.length) (by omega)
  have e : own_cat p (own_sp []) = [p] := by simp [own_sp, own_cat]
  rw [e] at h2 ⊢
  have hlen : (D ++ [p]).length = D.length + 1 := by simp
  refine ⟨⟨nD.2.1, by rw [nD.1]; omega⟩, ?_, by rw [own_nthD _ _ _ (by omega)]; rfl⟩
  rw [own_n2, hlen, Int32.ofNat_add]
  exact (Int32.add_sub_cancel _ _).symm
def own_GT (cs : List Int32) : Prop := cs.length ≤ 6 ∧ ∀ c ∈ cs, ¬ c < 0 ∧ ¬ 255 < c
def own_GS (fs : List (List Int32)) : Prop := ∀ us ∈ fs, own_GT us
theorem own_gt0 : own_GT [] := ⟨by decide, nofun⟩
theorem own_all0 {P : Int32 → Prop} : ∀ x ∈ ([] : List Int32), P x := fun _ q => nomatch q
theorem own_allS {P : Int32 → Prop} {y : Int32} {L : List Int32} (q : P y) (r : ∀ x ∈ L, P x) : ∀ x ∈ y :: L, P x := fun x z => (List.mem_cons.mp z).elim (fun u => u ▸ q) (r x)
theorem own_gtS {cs : List Int32} (h : own_GT cs) (b e:Int32) : own_GT (own_sub cs b e) :=
  ⟨by have := h.1; rw [own_sub, List.length_take, List.length_drop]; omega, fun c hc => h.2 c (List.mem_of_mem_drop (List.mem_of_mem_take hc))⟩
theorem own_gtn {fs : List (List Int32)} (h : own_GS fs) (j:Int32) : own_GT (own_nth fs j) := by
  rw [own_nth, List.getD_eq_getElem?_getD]
  cases q : fs[j.toNatClampNeg]? with
  | none => exact own_gt0
  | some us => exact h us (List.mem_of_getElem? q)
theorem own_spm : ∀ (cs : List Int32) (g : List Int32), g ∈ own_sp cs → g.length ≤ cs.length ∧ ∀ c ∈ g, c ∈ cs
  | [], g, h => by rw [own_sp, List.mem_singleton] at h; rw [h]; exact ⟨Nat.le_refl _, fun _ q => q⟩
  | u :: us, g, h => by
    rw [own_sp] at h
    split at h
    · rcases List.mem_cons.mp h with rfl | h
      · exact ⟨by simp, nofun⟩
      · have := own_spm us g h; exact ⟨by simp only [List.length_cons]; omega, fun c hc => List.mem_cons_of_mem _ (this.2 c hc)⟩
    · cases q : own_sp us with
      | nil => exact absurd q (own_spl us).2
      | cons v vs =>
        rw [q] at h
        rcases List.mem_cons.mp h with rfl | h
        · have := own_spm us v (by rw [q]; exact List.mem_cons_self ..)
          refine ⟨by simp only [List.length_append, List.length_cons, List.length_nil]; omega, fun c hc => ?_⟩
          rcases List.mem_append.mp hc with hc | hc
          · rw [List.mem_singleton.mp hc]; exact List.mem_cons_self ..
          · exact List.mem_cons_of_mem _ (this.2 c hc)
        · have := own_spm us g (by rw [q]; exact List.mem_cons_of_mem _ h); exact ⟨by simp only [List.length_cons]; omega, fun c hc => List.mem_cons_of_mem _ (this.2 c hc)⟩
theorem own_gsp {cs : List Int32} (h : own_GT cs) : own_GS (own_sp cs) := fun g hg => ⟨Nat.le_trans (own_spm cs g hg).1 h.1, fun c hc => h.2 c ((own_spm cs g hg).2 c hc)⟩
theorem own_gtd {cs : List Int32} (h : own_GT cs) (i : Nat) : ¬ cs.getD i 0 < 0 ∧ ¬ 255 < cs.getD i 0 := by
  rw [List.getD_eq_getElem?_getD]
  cases q : cs[i]? with
  | none => exact ⟨by decide, by decide⟩
  | some c => exact h.2 c (List.mem_of_getElem? q)
theorem own_ixE {cs : List Int32} {i : Int32} (h : cs.length ≤ i.toNatClampNeg) : own_ix cs i = -1 := by rw [own_ix, List.drop_eq_nil_of_le h]; rfl
theorem own_drop {cs : List Int32} {k : Nat} (h : k < cs.length) : cs.drop k = cs.getD k 0 :: cs.drop (k + 1) := by
  rw [List.drop_eq_getElem_cons h]; simp [List.getD_eq_getElem?_getD, h]
theorem own_ofn {i : Int32} (hi : ¬ i < 0) : Int32.ofNat i.toNatClampNeg = i := by
  have a := own_ti hi
  have c := i.toInt_lt
  exact own_eqi (by rw [(own_nn (by omega)).2.2]; exact a.symm)
theorem own_inc {i : Int32} (hi : ¬ i < 0) (h : i.toNatClampNeg < 6) : ¬ (i + 1) < 0 ∧ (i + 1).toNatClampNeg = i.toNatClampNeg + 1 := by
  have e : i + 1 = Int32.ofNat (i.toNatClampNeg + 1) := by rw [Int32.ofNat_add, own_ofn hi]; rfl
  have n := own_nn (k := i.toNatClampNeg + 1) (by omega)
  rw [e]; exact ⟨n.2.1, n.1⟩
theorem own_ixH {cs : List Int32} {i : Int32} (hi : ¬ i < 0) (h : i.toNatClampNeg < cs.length) (q : cs.getD i.toNatClampNeg 0 = 44) : own_ix cs i = i := by
  rw [own_ix, own_drop h, own_fx, if_pos q, own_ofn hi]
theorem own_ixT {cs : List Int32} {i : Int32} (hi : ¬ i < 0) (h : i.toNatClampNeg < cs.length) (h6 : i.toNatClampNeg < 6) (q : ¬ cs.getD i.toNatClampNeg 0 = 44) : own_ix cs (i + 1) = own_ix cs i := by
  rw [own_ix, own_ix, (own_inc hi h6).2, own_drop h, own_fx, if_neg q]
theorem own_pe {cs : List Int32} {p : Int32} (hl : cs.length ≤ 6) (hp : own_po cs p) (q : ¬ p < own_tn cs) : cs.length ≤ p.toNatClampNeg := by
  rw [Int32.lt_iff_toInt_lt, own_tn, (own_nn (by omega)).2.2, own_ti hp.1] at q
  omega
theorem own_irr (x:Int32) : ¬ x < x := Int32.lt_irrefl
theorem own_sb {cs : List Int32} {b e : Int32} (hl : cs.length ≤ 6) (hr : own_rng cs b e) : e - b = Int32.ofNat (e.toNatClampNeg - b.toNatClampNeg) := by
  obtain ⟨h1, h2, h3, _⟩ := hr
  have a := own_ti h1
  have c := own_ti h2
  have e1 : e = Int32.ofNat (e.toNatClampNeg - b.toNatClampNeg) + b := by
    rw [← own_ofn h1, ← Int32.ofNat_add, own_ofn h1, Nat.sub_add_cancel h3, own_ofn h2]
  generalize hk : Int32.ofNat (e.toNatClampNeg - b.toNatClampNeg) = k at e1
  rw [e1]; exact Int32.add_sub_cancel _ _
theorem own_rfacts {cs : List Int32} {b e : Int32} (hl : cs.length ≤ 6) (hr : own_rng cs b e) : cs.length ≤ 6 ∧ ¬ b < 0 ∧ ¬ e < b ∧ ¬ own_tn cs < e ∧ True ∧ ((b + (e - b)) - b) = e - b ∧ b + (e - b) = e := by
  obtain ⟨h1, h2, _, _⟩ := hr
  have a := own_ti h1
  have c := own_ti h2
  have e2 : b + (e - b) = e := by rw [Int32.add_comm]; exact Int32.sub_add_cancel _ _
  refine ⟨hl, h1, ?_, ?_, trivial, by rw [e2], e2⟩
  · rw [Int32.lt_iff_toInt_lt, a, c]; omega
  · rw [Int32.lt_iff_toInt_lt, own_tn, (own_nn (by omega)).2.2, c]; omega
theorem own_s1 {b e : Int32} (e2 : b + (e - b) = e) (r2 : ¬ e < b) : ¬ (b + (e - b)) < b := by rw [e2]; exact r2
section
variable {cs : List Int32} {b e : Int32}
theorem own_sbn (hl : cs.length ≤ 6) (hr : own_rng cs b e) : ¬ (e - b) < 0 ∧ (e - b).toNatClampNeg = e.toNatClampNeg - b.toNatClampNeg ∧ (e - b).toInt = ((e.toNatClampNeg - b.toNatClampNeg : Nat) : Int) := by
  have := hr.2.2.2
  have n := own_nn (k := e.toNatClampNeg - b.toNatClampNeg) (by omega)
  rw [own_sb hl hr]; exact ⟨n.2.1, n.1, n.2.2⟩
theorem own_s2 (hl : cs.length ≤ 6) (e1 : ((b + (e - b)) - b) = e - b) (hr : own_rng cs b e) : ¬ ((b + (e - b)) - b) < 0 := by rw [e1]; exact (own_sbn hl hr).1
theorem own_s3 (hl : cs.length ≤ 6) (e1 : ((b + (e - b)) - b) = e - b) (hr : own_rng cs b e) : ((b + (e - b)) - b).toNatClampNeg ≤ 6 := by
  have := hr.2.2.2
  rw [e1, (own_sbn hl hr).2.1]; omega
theorem own_tnn (hl : cs.length ≤ 6) : (own_tn cs).toNatClampNeg = cs.length := (own_nn (by omega)).1
theorem own_s4 (hl : cs.length ≤ 6) (e1 : ((b + (e - b)) - b) = e - b) (hr : own_rng cs b e) : b.toNatClampNeg + ((b + (e - b)) - b).toNatClampNeg ≤ (own_tn cs).toNatClampNeg := by
  obtain ⟨_, _, _, _⟩ := id hr
  rw [e1, (own_sbn hl hr).2.1, own_tnn hl]; omega
theorem own_s5 (x:Int32) : (0:Int32).toNatClampNeg + x.toNatClampNeg ≤ x.toNatClampNeg := by
  have : (0:Int32).toNatClampNeg = 0 := rfl
  omega
theorem own_subl (hl : cs.length ≤ 6) (hr : own_rng cs b e) : (own_sub cs b e).length = e.toNatClampNeg - b.toNatClampNeg := by
  obtain ⟨_, _, _, _⟩ := hr
  rw [own_sub, List.length_take, List.length_drop]; omega
theorem own_s6 (hl : cs.length ≤ 6) (e1 : ((b + (e - b)) - b) = e - b) (hr : own_rng cs b e) : ((b + (e - b)) - b) = own_tn (own_sub cs b e) := by rw [e1, own_tn, own_subl hl hr]; exact own_sb hl hr
def own_cp (n:Int32) (vs : List Value) (sp nn:Int32) : List Value := (List.replicate n.toNatClampNeg (.int (0:Int32))).take (0:Int32).toNatClampNeg ++ ((List.range nn.toNatClampNeg).map fun i => vs.getD (sp.toNatClampNeg + i) (.int (0:Int32))) ++ (List.replicate n.toNatClampNeg (.int (0:Int32))).drop ((0:Int32).toNatClampNeg + nn.toNatClampNeg)
def own_tb (cs : List Int32) : List Value := (cs.map fun c => c.toInt8.toInt32).map Value.int
theorem own_tbg (cs : List Int32) (i : Nat) : (own_tb cs).getD i (.int (0:Int32)) = .int ((cs.getD i 0).toInt8.toInt32) := by
  simp only [own_tb, List.getD_eq_getElem?_getD, List.getElem?_map]
  cases cs[i]? <;> rfl
theorem own_cps {n nn : Int32} (hr : own_rng cs b e) (h1 : n.toNatClampNeg = e.toNatClampNeg - b.toNatClampNeg) (h2 : nn.toNatClampNeg = e.toNatClampNeg - b.toNatClampNeg) : own_cp n (own_tb cs) b nn = own_tb (own_sub cs b e) := by
  obtain ⟨_, _, _, _⟩ := hr
  have z : (0:Int32).toNatClampNeg = 0 := rfl
  rw [own_cp, h1, h2, z, List.take_zero, List.nil_append, Nat.zero_add, List.drop_eq_nil_of_le (by rw [List.length_replicate]; exact Nat.le_refl _), List.append_nil]
  refine List.ext_getElem (by simp only [List.length_map, List.length_range, own_tb, own_sub, List.length_take, List.length_drop]; omega) fun i p q => ?_
  simp only [List.getElem_map, List.getElem_range, own_tbg]
  simp only [List.length_map, List.length_range] at p
  have hlt : b.toNatClampNeg + i < cs.length := by omega
  simp [own_tb, own_sub, List.getD_eq_getElem?_getD, hlt]
theorem own_s7 (hl : cs.length ≤ 6) (e1 : ((b + (e - b)) - b) = e - b) (hr : own_rng cs b e) : own_cp ((b + (e - b)) - b) (own_tb cs) b ((b + (e - b)) - b) = own_tb (own_sub cs b e) := by
  rw [e1]; exact own_cps hr (own_sbn hl hr).2.1 (own_sbn hl hr).2.1
theorem own_sall (hl : cs.length ≤ 6) (g0 : b = 0) (g1 : e = own_tn cs) : own_sub cs b e = cs := by
  have z : (0:Int32).toNatClampNeg = 0 := rfl
  rw [own_sub, g0, g1, own_tnn hl, z, List.drop_zero, List.take_of_length_le (by omega)]
theorem own_s8 (hl : cs.length ≤ 6) (hr : own_rng cs b e) (g0 : b = 0) (g1 : e = own_tn cs) : own_tn cs = own_tn (own_sub cs b e) := by rw [own_sall hl g0 g1]
theorem own_s9 (hl : cs.length ≤ 6) (hr : own_rng cs b e) (g0 : b = 0) (g1 : e = own_tn cs) : own_tb cs = own_tb (own_sub cs b e) := by rw [own_sall hl g0 g1]
theorem own_snil (hl : cs.length ≤ 6) (hr : own_rng cs b e) (gz : (e - b) = 0) : own_sub cs b e = [] := by
  have h := (own_sbn hl hr).2.1
  rw [gz, show (0:Int32).toNatClampNeg = 0 from rfl] at h
  rw [own_sub, ← h, List.take_zero]
theorem own_s10 (hl : cs.length ≤ 6) (hr : own_rng cs b e) (gz : (e - b) = 0) : own_tn [] = own_tn (own_sub cs b e) := by rw [own_snil hl hr gz]
theorem own_s11 (hl : cs.length ≤ 6) (hr : own_rng cs b e) (gz : (e - b) = 0) : own_tb [] = own_tb (own_sub cs b e) := by rw [own_snil hl hr gz]
theorem own_s12 (e2 : b + (e - b) = e) (g1 : ¬ e = own_tn cs) : ¬ (b + (e - b)) = own_tn cs := by rw [e2]; exact g1
theorem own_tb0 (hl : cs.length ≤ 6) (hr : own_rng cs b e) : own_rng cs b (own_tn cs) := by
  have n := own_nn (k := cs.length) (by omega)
  obtain ⟨h1, _, _, _⟩ := hr
  exact ⟨h1, n.2.1, by rw [own_tnn hl]; omega, by rw [own_tnn hl]; exact Nat.le_refl _⟩
theorem own_s13 (hl : cs.length ≤ 6) (e1 : ((b + (e - b)) - b) = e - b) (hr : own_rng cs b e) (g0 : b = 0) (g1 : ¬ e = own_tn cs) : ((b + (e - b)) - b) < (own_tn cs - b) := by
  have h3 := hr.2.2.2
  have hne1 : e.toNatClampNeg ≠ cs.length := fun q => g1 (by rw [← own_ofn hr.2.1, q]; rfl)
  rw [e1, Int32.lt_iff_toInt_lt, (own_sbn hl hr).2.2, (own_sbn hl (own_tb0 hl hr)).2.2, own_tnn hl, g0, show (0:Int32).toNatClampNeg = 0 from rfl]; omega
theorem own_t2 (hl : cs.length ≤ 6) (hr : own_rng cs b e) : ¬ (own_tn cs - b) < 0 := (own_sbn hl (own_tb0 hl hr)).1
theorem own_t4 (hl : cs.length ≤ 6) (hr : own_rng cs b e) : b.toNatClampNeg + (own_tn cs - b).toNatClampNeg ≤ (own_tn cs).toNatClampNeg := by
  obtain ⟨_, _, _, _⟩ := id hr
  rw [(own_sbn hl (own_tb0 hl hr)).2.1, own_tnn hl]; omega
theorem own_tm (hl : cs.length ≤ 6) (e1 : ((b + (e - b)) - b) = e - b) (hr : own_rng cs b e) (gm : ¬ ((b + (e - b)) - b) < (own_tn cs - b)) : e.toNatClampNeg = cs.length := by
  obtain ⟨_, _, _, _⟩ := id hr
  rw [e1, Int32.lt_iff_toInt_lt, (own_sbn hl hr).2.2, (own_sbn hl (own_tb0 hl hr)).2.2, own_tnn hl] at gm
  omega
theorem own_t5 (hl : cs.length ≤ 6) (e1 : ((b + (e - b)) - b) = e - b) (hr : own_rng cs b e) (gm : ¬ ((b + (e - b)) - b) < (own_tn cs - b)) : (0:Int32).toNatClampNeg + (own_tn cs - b).toNatClampNeg ≤ ((b + (e - b)) - b).toNatClampNeg := by
  have := own_tm hl e1 hr gm
  rw [e1, (own_sbn hl hr).2.1, (own_sbn hl (own_tb0 hl hr)).2.1, own_tnn hl, show (0:Int32).toNatClampNeg = 0 from rfl]; omega
theorem own_t7 (hl : cs.length ≤ 6) (e1 : ((b + (e - b)) - b) = e - b) (hr : own_rng cs b e) (gm : ¬ ((b + (e - b)) - b) < (own_tn cs - b)) : own_cp ((b + (e - b)) - b) (own_tb cs) b (own_tn cs - b) = own_tb (own_sub cs b e) := by
  have := own_tm hl e1 hr gm
  rw [e1]; exact own_cps hr (own_sbn hl hr).2.1 (by rw [(own_sbn hl (own_tb0 hl hr)).2.1, own_tnn hl, this])
end
theorem own_b44 {c : Int32} (g : ¬ c < 0 ∧ ¬ 255 < c) (h : ¬ c = 44) : ¬ (c.toInt8.toInt32 = (44:Int32)) := by
  intro q
  have e := congrArg Int32.toInt q
  have h255 : (255:Int32).toInt = 255 := by decide
  have h44 : (44:Int32).toInt = 44 := by decide
  have a := own_ti g.1
  have g2 := g.2
  rw [Int32.lt_iff_toInt_lt, h255] at g2
  rw [Int8.toInt_toInt32, Int32.toInt_toInt8, h44] at e
  refine h (own_eqi ?_)
  rw [h44]
  have b1 : (0 : Int) ≤ c.toInt := by omega
  rw [Int.bmod_def] at e
  split at e <;> omega
theorem own_msk (x:Int32) : nar .char (x &&& (255:Int32)).toUInt32.toUInt16.toUInt32.toInt32 = x &&& 255 := by rw [i2c_mask]; exact i2c_mask x
theorem own_mb (x:Int32) : ¬ (x &&& 255) < 0 ∧ ¬ 255 < (x &&& 255) := by
  have a := c_mask x 255 8 (by decide) (by decide)
  have e : (255:Int32).toInt = 255 := by decide
  have e0 : (0:Int32).toInt = 0 := rfl
  rw [Int32.lt_iff_toInt_lt, Int32.lt_iff_toInt_lt, e, e0]
  omega
def own_iQ (x:Int32) (h0 : Heap) (n0 : Nat) (v : Option Value) (h : Heap) (L : List Loc) : Prop := v = some (.int x) ∧ Fr n0 L ∧ h = h0
def own_nQ (h0 : Heap) (n0 : Nat) (v : Option Value) (h : Heap) (L : List Loc) : Prop := v = none ∧ Fr n0 L ∧ h = h0
def own_strQ (Z : State) (cs : List Int32) (h0 : Heap) (n0 : Nat) (v : Option Value) (h : Heap) (L : List Loc) : Prop := ∃ (a b : Addr) (k : ClassId), v = some (.ref a) ∧ Fr n0 L ∧ Keep h0 h [] ∧ Exa Z h a "java/lang/String" ∧ Fld Z h a "java/lang/String" "value" "[B" (.ref b) ∧ Fld Z h a "java/lang/String" "coder" "B" (.int (0:Int32)) ∧ Arv Z h b k .byte (own_tn cs) (own_tb cs) (.int (0:Int32))
def own_Str (Z : State) (h : Heap) (a : Addr) (cs : List Int32) : Prop := ∃ (b : Addr) (k : ClassId), Exa Z h a "java/lang/String" ∧ Fld Z h a "java/lang/String" "value" "[B" (.ref b) ∧ Fld Z h a "java/lang/String" "coder" "B" (.int (0:Int32)) ∧ Arv Z h b k .byte (own_tn cs) (own_tb cs) (.int (0:Int32))
def own_L2 (Z : State) (h : Heap) : List Addr → List (List Int32) → Prop
  | [], [] => True
  | a :: rs, f :: fs => own_Str Z h a f ∧ own_L2 Z h rs fs
  | _, _ => False
def own_Rows (Z : State) (h : Heap) (r : Addr) (fs : List (List Int32)) : Prop := ∃ (k : ClassId) (rs : List Addr), fs.length ≤ 7 ∧ Arv Z h r k (.object "java/lang/String") (own_n2 fs) (rs.map Value.ref) .null ∧ own_L2 Z h rs fs
def own_fldQ (Z : State) (cs : List Int32) (h0 : Heap) (n0 : Nat) (v : Option Value) (h : Heap) (L : List Loc) : Prop := ∃ r : Addr, v = some (.ref r) ∧ Fr n0 L ∧ Keep h0 h [] ∧ h0.size ≤ r ∧ own_Rows Z h r (own_sp cs)
def own_stepQ (Z : State) (a : Addr) (k : ClassId) (p1 p2 p3:Int32) (h0 : Heap) (n0 : Nat) (v : Option Value) (h : Heap) (L : List Loc) : Prop := v = none ∧ Fr n0 L ∧ Keep h0 h [a] ∧ Arv Z h a k .int (3:Int32) [.int (own_nf p1 p3), .int (own_no p2 p3), .int (1:Int32)] (.int (0:Int32))
section Rows
variable {p : Program} {l : Launch} {e : Env} {R : Room} {s : State} {m : MethodId} {args : Array Value} {below : List Frame} {meth : Method} {c : Code} {T : State} {locs : List Loc} {cells slots len W : Nat} {Z : State} {a0 : Array Value} {h h' : Heap} {a b r st : Addr} {k ks : ClassId} {cs : List Int32} {fs fs' : List (List Int32)} {rs : List Addr} {n n' z : Int32} {vs vs' : List Value} {d : Value} {kI : Nat}
theorem own_cast (e1 : n = n') (e2 : vs = vs') (F : Arv Z h b k .byte n vs d) : Arv Z h b k .byte n' vs' d := by rw [← e1, ← e2]; exact F
theorem own_stA {p1 p2 p3 : Int32} (q : p3 = 44) (F : Arv Z h a k .int (3:Int32) [.int (p1 + (1:Int32)), .int (0:Int32), .int (1:Int32)] d) : Arv Z h a k .int (3:Int32) [.int (own_nf p1 p3), .int (own_no p2 p3), .int (1:Int32)] d := by rw [own_nf, own_no, if_pos q, if_pos q]; exact F
theorem own_stB {p1 p2 p3 : Int32} (q : ¬ p3 = 44) (F : Arv Z h a k .int (3:Int32) [.int p1, .int (p2 + (1:Int32)), .int (1:Int32)] d) : Arv Z h a k .int (3:Int32) [.int (own_nf p1 p3), .int (own_no p2 p3), .int (1:Int32)] d := by rw [own_nf, own_no, if_neg q, if_neg q]; exact F
theorem own_Str.ext (F : own_Str Z h a cs) (E : Ext h h') : own_Str Z h' a cs := by obtain ⟨b, k, h1, h2, h3, h4⟩ := F; exact ⟨b, k, h1.ext E, h2.ext E, h3.ext E, h4.ext E⟩
theorem own_Str.keep0 (F : own_Str Z h a cs) (K : Keep h h' []) : own_Str Z h' a cs := by obtain ⟨b, k, h1, h2, h3, h4⟩ := F; exact ⟨b, k, h1.keep K, h2.keep K nin0, h3.keep K nin0, h4.keep K nin0⟩
theorem own_Str.keep1 (F : own_Str Z h a cs) (wi : (Jvm.Cond.instantiable "java/lang/String" kI).before a0 Z = true) (K : Keep h h' [st]) (S : Arv Z h st ks .int n vs d) : own_Str Z h' a cs := by
  obtain ⟨b, k, h1, h2, h3, h4⟩ := F
  have n1 := Exa.neArv h1 S wi
  have n2 := own_neAA h4 S (by decide)
  exact ⟨b, k, h1.keep K, h2.keep K (ninS n1 nin0), h3.keep K (ninS n1 nin0), h4.keep K (ninS n2 nin0)⟩
theorem own_L2.map (H : ∀ a cs, own_Str Z h a cs → own_Str Z h' a cs) : ∀ (rs : List Addr) (fs : List (List Int32)), own_L2 Z h rs fs → own_L2 Z h' rs fs
  | [], [], _ => trivial
  | a :: rs, f :: fs, q => ⟨H _ _ q.1, own_L2.map H rs fs q.2⟩
  | [], _ :: _, q => q.elim
  | _ :: _, [], q => q.elim
theorem own_L2.at : ∀ (rs : List Addr) (fs : List (List Int32)), own_L2 Z h rs fs → ∀ i, i < fs.length → ∃ a, (rs.map Value.ref).getD i .null = .ref a ∧ own_Str Z h a (fs.getD i [])
  | [], [], _, _, hi => absurd hi (Nat.not_lt_zero _)
  | a :: rs, f :: fs, q, 0, _ => ⟨a, rfl, q.1⟩
  | a :: rs, f :: fs, q, i + 1, hi => own_L2.at rs fs q.2 i (Nat.lt_of_succ_lt_succ hi)
  | [], _ :: _, q, _, _ => q.elim
  | _ :: _, [], q, _, _ => q.elim
theorem own_Rows.ext (F : own_Rows Z h r fs) (E : Ext h h') : own_Rows Z h' r fs := by obtain ⟨k, rs, h1, h2, h3⟩ := F; exact ⟨k, rs, h1, h2.ext E, own_L2.map (fun _ _ q => q.ext E) _ _ h3⟩
theorem own_Rows.keep0 (F : own_Rows Z h r fs) (K : Keep h h' []) : own_Rows Z h' r fs := by obtain ⟨k, rs, h1, h2, h3⟩ := F; exact ⟨k, rs, h1, h2.keep K nin0, own_L2.map (fun _ _ q => q.keep0 K) _ _ h3⟩
theorem own_Rows.keep1 (F : own_Rows Z h r fs) (wi : (Jvm.Cond.instantiable "java/lang/String" kI).before a0 Z = true) (K : Keep h h' [st]) (S : Arv Z h st ks .int n vs d) : own_Rows Z h' r fs := by
  obtain ⟨k, rs, h1, h2, h3⟩ := F
  exact ⟨k, rs, h1, h2.keep K (ninS (own_neAA h2 S (by decide)) nin0), own_L2.map (fun _ _ q => q.keep1 wi K S) _ _ h3⟩
theorem own_Rows.lt (F : own_Rows Z h r fs) : r < h.size := by obtain ⟨k, rs, h1, h2, h3⟩ := F; exact h2.lt
theorem own_rows (e : fs = fs') (hl : fs'.length ≤ 7) (V : Arv Z h r k (.object "java/lang/String") (own_n2 fs') (rs.map Value.ref) .null) (S : own_L2 Z h rs fs') : own_Rows Z h r fs := by subst e; exact ⟨k, rs, hl, V, S⟩
theorem own_rget (X : Stand p l e R s m args below meth c T locs cells slots) (hx : p.tables.exec = Jvm.exec) (hZ : Z.Warmed39 s.vm) {j : Int32} (Rw : own_Rows Z h r fs) (eT : T.heap = h) (hj : own_inb fs j) {g : JFrame} (hg : g.method = m) {rest : List Value} (hs : g.stack = .int j :: .ref r :: rest) (hd : decode c.code g.pc = .ok (.aaload, 1)) :
    ∃ a, own_Str Z h a (own_nth fs j) ∧ ∀ target, Steps p.tables e below (T.setTop { g with pc := g.pc + 1, stack := .ref a :: rest }) target → Steps p.tables e below (T.setTop g) target := by
  obtain ⟨_, rs, _, A, S2⟩ := Rw
  obtain ⟨cl, Ar, _, S, _, H, _⟩ := A
  have hsz : cl.slots.size = fs.length := by rw [S, own_n2]; exact (own_nn (by omega)).1
  have hin : ¬ (j < 0 ∨ cl.slots.size ≤ j.toNatClampNeg) := fun z => z.elim hj.1 fun y => by have := hj.2; omega
  obtain ⟨a, ha, hS⟩ := own_L2.at rs fs S2 j.toNatClampNeg hj.2
  exact ⟨a, hS, X.aaload hx (j := j) (v := .ref a) (by rw [eT]; exact Ar.1) (State.isArrayOf_alike hZ.alike Ar.2.1) rfl Ar.2.2 hin (Has.at H hin ha) hg hs hd⟩
theorem own_rlen (X : Stand p l e R s m args below meth c T locs cells slots) (hx : p.tables.exec = Jvm.exec) (hZ : Z.Warmed39 s.vm) (Rw : own_Rows Z h r fs) (eT : T.heap = h) {g : JFrame} (hg : g.method = m) {rest : List Value} (hs : g.stack = .ref r :: rest) (hd : decode c.code g.pc = .ok (.arraylength, 1)) :
    ∀ target, Steps p.tables e below (T.setTop { g with pc := g.pc + 1, stack := .int (own_n2 fs) :: rest }) target → Steps p.tables e below (T.setTop g) target := by
  obtain ⟨_, _, _, A, _⟩ := Rw
  obtain ⟨_, Ar, _, S, M, _, _⟩ := A
  intro target ht
  refine X.arraylength hx (by rw [eT]; exact Ar.1) (State.isArrayOf_alike hZ.alike Ar.2.1) hg hs hd _ ?_
  rw [len_of S M]
  exact ht
theorem own_lenw : ∀ d ∈ StrChars.Road.wordsLen, d ∈ tables_1 := by decide +kernel
theorem own_chw : ∀ d ∈ StrChars.Road.wordsChN, d ∈ tables_1 := by decide +kernel
theorem own_wd {us : List Int32} (g : own_GT us) : ∀ c ∈ us, ¬ c < 0 ∧ ¬ (65535:Int32) < c := fun c hc => ⟨(g.2 c hc).1, fun q => (g.2 c hc).2 (Int32.lt_trans (by decide) q)⟩
theorem own_lenB (n0 : Nat) (hZ : Z.Warmed39 s.vm) (hw : HW a0 Z) (wi : (Jvm.Cond.instantiable "java/lang/String" kI).before a0 Z = true) (E : Exa Z h a "java/lang/String") (V : Fld Z h a "java/lang/String" "value" "[B" (.ref b)) (C : Fld Z h a "java/lang/String" "coder" "B" (.int 0)) (K : Arv Z h b k .byte (own_tn cs) (own_tb cs) (.int 0)) (G : own_GT cs)
    (S : Sta Z h "java/lang/String" "COMPACT_STRINGS" "Z" (.int z)) (hz : ¬ z = 0) (hfr : 2 ≤ R.frames) (hlo : W + 25 ≤ R.locals) :
    Back l R p e below s args (⟨"java/lang/String", "length", "()I"⟩ : MethodName) len W (fun P x => x = #[.ref a] ∧ P.U.heap = h ∧ P.cells + 0 ≤ R.cells ∧ P.slots + 0 ≤ R.slots)
      (fun P _ v B => ∃ L, own_iQ (own_tn cs) h n0 v B.U.heap L ∧ B.locs = P.locs ++ L ∧ B.cells = P.cells + 0 ∧ B.slots = P.slots + 0) := by
  intro m meth c P g ig mk x X hg hsize hdg hW hn hp'
  obtain ⟨v, B, X', ⟨L, ⟨hv, rfl, hh⟩, r⟩, st⟩ := StrChars.Road.lenW (h := h) hZ (fun d hd => hw d (own_lenw d hd)) wi E V C K (StrChars.Road.codOf rfl fun c hc => (G.2 c hc).2) (own_wd G) S hz (Nat.le_trans G.1 (by decide)) hfr hlo m meth c P g ig mk x X hg hsize hdg hW hn hp'
  exact ⟨v, B, X', ⟨[], ⟨hv, Fr.nil n0, hh⟩, r⟩, st⟩
theorem own_chB (n0 : Nat) (hZ : Z.Warmed39 s.vm) (hw : HW a0 Z) (wi : (Jvm.Cond.instantiable "java/lang/String" kI).before a0 Z = true) (E : Exa Z h a "java/lang/String") (V : Fld Z h a "java/lang/String" "value" "[B" (.ref b)) (C : Fld Z h a "java/lang/String" "coder" "B" (.int 0)) (K : Arv Z h b k .byte (own_tn cs) (own_tb cs) (.int 0)) (G : own_GT cs)
    (S : Sta Z h "java/lang/String" "COMPACT_STRINGS" "Z" (.int z)) (hz : ¬ z = 0) {fm : Value} (F : Sta Z h "jdk/internal/util/Preconditions" "SIOOBE_FORMATTER" "Ljava/util/function/BiFunction;" fm) (rf : fm.isRef = true) {j : Int32} (hj : ¬ j < 0) (hi : j.toNatClampNeg < cs.length) (hfr : 4 ≤ R.frames) (hlo : W + 53 ≤ R.locals) :
    Back l R p e below s args (⟨"java/lang/String", "charAt", "(I)C"⟩ : MethodName) len W (fun P x => x = #[.ref a, .int j] ∧ P.U.heap = h ∧ P.cells + 0 ≤ R.cells ∧ P.slots + 0 ≤ R.slots)
      (fun P _ v B => ∃ L, own_iQ (cs.getD j.toNatClampNeg 0) h n0 v B.U.heap L ∧ B.locs = P.locs ++ L ∧ B.cells = P.cells + 0 ∧ B.slots = P.slots + 0) := by
  intro m meth c P g ig mk x X hg hsize hdg hW hn hp'
  obtain ⟨v, B, X', ⟨L, ⟨hv, rfl, hh⟩, r⟩, st⟩ := StrChars.Road.chN (h := h) hZ (fun d hd => hw d (own_chw d hd)) wi E V C K (StrChars.Road.codOf rfl fun c hc => (G.2 c hc).2) (own_wd G) S hz F rf (Nat.le_trans G.1 (by decide)) hi (own_ofn hj).symm hfr hlo m meth c P g ig mk x X hg hsize hdg hW hn hp'
  exact ⟨v, B, X', ⟨[], ⟨hv, Fr.nil n0, hh⟩, r⟩, st⟩
theorem own_nww : ∀ d ∈ StrChars.Road.words, d ∈ tables_1 := by decide +kernel
def own_newQ (Z : State) (x : Addr) (cs : List Int32) (h : Heap) (n0 : Nat) (v : Option Value) (h' : Heap) (L : List Loc) : Prop := ∃ (t : Addr) (kb : ClassId), v = none ∧ Fr n0 L ∧ Keep h h' [x] ∧ h.size ≤ t ∧ Exa Z h' x "java/lang/String" ∧ Fld Z h' x "java/lang/String" "value" "[B" (.ref t) ∧ Fld Z h' x "java/lang/String" "coder" "B" (.int (0:Int32)) ∧ Arv Z h' t kb .byte (own_tn cs) (own_tb cs) (.int (0:Int32))
theorem own_newB {x : Addr} {N : Int32} {n0 nn : Nat} {v0 c0 : Value} (hnn : cs.length = nn) (hh0 : n0 ≤ h.size) (hx0 : n0 ≤ x) (hZ : Z.Warmed39 s.vm) (hw : HW a0 Z) (wi : (Jvm.Cond.instantiable "java/lang/String" kI).before a0 Z = true) (E : Exa Z h x "java/lang/String") (V : Fld Z h x "java/lang/String" "value" "[B" v0) (C : Fld Z h x "java/lang/String" "coder" "B" c0) (K : Arv Z h b k .char N (cs.map Value.int) d)
    (S : Sta Z h "java/lang/String" "COMPACT_STRINGS" "Z" (.int z)) (hz : ¬ z = 0) (hN : N = own_tn cs) (l0 : 0 < cs.length) (l2 : cs.length ≤ 4000) (hp : ∀ c ∈ cs, ¬ c < 0 ∧ ¬ (255:Int32) < c) (hfr : 4 ≤ R.frames) (hlo : W + 65 ≤ R.locals) :
    Back l R p e below s args (⟨"java/lang/String", "<init>", "([C)V"⟩ : MethodName) len W (fun P y => y = #[.ref x, .ref b] ∧ P.U.heap = h ∧ P.cells + 1 ≤ R.cells ∧ P.slots + nn ≤ R.slots)
      (fun P _ v B => ∃ L, own_newQ Z x cs h n0 v B.U.heap L ∧ B.locs = P.locs ++ L ∧ B.cells = P.cells + 1 ∧ B.slots = P.slots + nn) := by
  subst hnn
  intro m meth c P g ig mk y X hg hsize hdg hW hn hp'
  obtain ⟨v, B, X', ⟨L, ⟨q1, q2, q3, q4, q5, t, kb, _, q6, _, q7, q8⟩, r⟩, st⟩ := StrChars.Road.backV (h := h) (n0 := n0) hZ (fun d hd => hw d (own_nww d hd)) wi hx0 hh0 E V C K S hz rfl hN l0 l2 hp rfl hfr hlo m meth c P g ig mk y X hg hsize hdg hW hn hp'
  subst hN
  exact ⟨v, B, X', ⟨L, ⟨t, kb, q1, q2, q3, q6, q4, q7, q5, q8⟩, r⟩, st⟩
end Rows

theorem d0_0 : dk method_3_code 0 (.iload_n 0) 1 := by decide +kernel
theorem d0_1 : dk method_3_code 1 (.iload_n 3) 1 := by decide +kernel
theorem d0_2 : dk method_3_code 2 .iushr 1 := by decide +kernel
theorem d0_3 : dk method_3_code 3 (.iconst 1) 1 := by decide +kernel
theorem d0_4 : dk method_3_code 4 .iand 1 := by decide +kernel
theorem d0_5 : dk method_3_code 5 (.ifCond .eq 6) 3 := by decide +kernel
theorem d0_8 : dk method_3_code 8 (.bipush 44) 2 := by decide +kernel
theorem d0_10 : dk method_3_code 10 .ireturn 1 := by decide +kernel
theorem d0_11 : dk method_3_code 11 (.lload_n 1) 1 := by decide +kernel
theorem d0_12 : dk method_3_code 12 (.bipush 8) 2 := by decide +kernel
theorem d0_14 : dk method_3_code 14 (.iload_n 3) 1 := by decide +kernel
theorem d0_15 : dk method_3_code 15 .imul 1 := by decide +kernel
theorem d0_16 : dk method_3_code 16 .lushr 1 := by decide +kernel
theorem d0_17 : dk method_3_code 17 .l2i 1 := by decide +kernel
theorem d0_18 : dk method_3_code 18 (.sipush 255) 3 := by decide +kernel
theorem d0_21 : dk method_3_code 21 .iand 1 := by decide +kernel
theorem d0_22 : dk method_3_code 22 .i2c 1 := by decide +kernel
theorem d0_23 : dk method_3_code 23 .ireturn 1 := by decide +kernel
def own_pk (p1:Int32) (q2 : Int64) (p3:Int32) : Int32 := if (((p1.toUInt32 >>> (p3 &&& 31).toUInt32).toInt32) &&& (1:Int32)) = (0:Int32) then (nar .char (((((q2.toUInt64 >>> (((8:Int32) * p3) &&& 0x3f).toInt64.toUInt64).toInt64).toInt32) &&& (255:Int32)).toUInt32.toUInt16.toUInt32.toInt32)) else 44
theorem own_pkb (p1:Int32) (q2 : Int64) (p3:Int32) : ¬ own_pk p1 q2 p3 < 0 ∧ ¬ 255 < own_pk p1 q2 p3 := by
  unfold own_pk
  split
  · rw [own_msk]; exact own_mb _
  · decide
theorem own_pkn (p1:Int32) (q2 : Int64) (p3:Int32) : nar .char (own_pk p1 q2 p3) = own_pk p1 q2 p3 := by
  unfold own_pk
  split
  · rw [own_msk]; exact i2c_mask _
  · decide
theorem own_pkb0 (p1:Int32) (q2 : Int64) (p3:Int32) : ¬ nar .char (own_pk p1 q2 p3) < 0 := by rw [own_pkn]; exact (own_pkb p1 q2 p3).1
theorem own_pkbb (p1:Int32) (q2 : Int64) (p3:Int32) : ¬ 255 < nar .char (own_pk p1 q2 p3) := by rw [own_pkn]; exact (own_pkb p1 q2 p3).2
abbrev y0 : MethodName := ⟨"com/example/novation/novation/CsvFieldsPinLaw", "pick", "(IJI)C"⟩
theorem pn0 : plainName "com/example/novation/novation/CsvFieldsPinLaw" = true := by first | (simp [plainName, overriddenIn]; done) | decide +kernel
def r0_1Q (Z : State) (p1:Int32) (q2 : Int64) (p3:Int32) (h0 : Heap) (n0 : Nat) : QT := fun v h L => v = some (.int (44:Int32)) ∧ Fr n0 L ∧ h = h0
theorem r0_1 (l : Launch) (Z : State) (a0 : Array Value) (hw : HW a0 Z) (ws : List Jvm.Cond) (p1:Int32) (q2 : Int64) (p3:Int32) (h0 : Heap) (n0 : Nat) (O0 : Old Z n0 h0) (hc4 : ¬ ((((p1.toUInt32 >>> (p3 &&& 31).toUInt32).toInt32) &&& (1:Int32)) = (0:Int32))) :
    MF l y0 method_3_code 4 (some .char) ws (rM 0 0 0 0) Z #[(.int p1), (.long q2), (.int p3)] h0 (r0_1Q Z p1 q2 p3 h0 n0) := by
  refine own_in (pq pn0) #[iv p1, .val (.long q2), .second, iv p3] (fun _ => by first | (simp [entryFrame, mkF, argsToLocals, Value.category]; done) | rfl) ?_
  intro p e s m below meth c s₁ Bd hx hby hml hown hnm hZ e0 X0
  have N0 := Fr.nil n0
  refine fin (Q := r0_1Q Z p1 q2 p3 h0 n0) (rm := (rM 0 0 0 0)) Bd X0 e0 (some (.int (44:Int32))) nofun ⟨rfl, N0, rfl⟩ (by decide) (by decide) fun fs hr => ?_
  show St p e below s₁ m 0 #[iv p1, .val (.long q2), .second, iv p3] [] _
  refine iN X0 hx hby d0_0 rfl ?_
  refine iN X0 hx hby d0_1 rfl ?_
  refine XS.iushr X0.here hx rfl (hb hby d0_2) rfl ?_
  refine iC X0 hx hby d0_3 ?_
  refine XS.iand X0.here hx rfl (hb hby d0_4) rfl ?_
  refine XS.ifNo X0.here hx rfl (hb hby d0_5) rfl ((if0 _ _).trans (feq hc4).1) ?_
  refine XS.bipush X0.here hx rfl (hb hby d0_8) ?_
  exact retN X0 hx (t := .char) Bd.returns (by simp) (hb hby d0_10) hr
def r0_2Q (Z : State) (p1:Int32) (q2 : Int64) (p3:Int32) (h0 : Heap) (n0 : Nat) : QT := fun v h L => v = some (.int (nar .char (((((q2.toUInt64 >>> (((8:Int32) * p3) &&& 0x3f).toInt64.toUInt64).toInt64).toInt32) &&& (255:Int32)).toUInt32.toUInt16.toUInt32.toInt32))) ∧ Fr n0 L ∧ h = h0
theorem r0_2 (l : Launch) (Z : State) (a0 : Array Value) (hw : HW a0 Z) (ws : List Jvm.Cond) (p1:Int32) (q2 : Int64) (p3:Int32) (h0 : Heap) (n0 : Nat) (O0 : Old Z n0 h0) (hc4 : (((p1.toUInt32 >>> (p3 &&& 31).toUInt32).toInt32) &&& (1:Int32)) = (0:Int32)) :
    MF l y0 method_3_code 4 (some .char) ws (rM 0 0 0 0) Z #[(.int p1), (.long q2), (.int p3)] h0 (r0_2Q Z p1 q2 p3 h0 n0) := by
  refine own_in (pq pn0) #[iv p1, .val (.long q2), .second, iv p3] (fun _ => by first | (simp [entryFrame, mkF, argsToLocals, Value.category]; done) | rfl) ?_
  intro p e s m below meth c s₁ Bd hx hby hml hown hnm hZ e0 X0
  have N0 := Fr.nil n0
  refine fin (Q := r0_2Q Z p1 q2 p3 h0 n0) (rm := (rM 0 0 0 0)) Bd X0 e0 (some (.int (nar .char (((((q2.toUInt64 >>> (((8:Int32) * p3) &&& 0x3f).toInt64.toUInt64).toInt64).toInt32) &&& (255:Int32)).toUInt32.toUInt16.toUInt32.toInt32)))) nofun ⟨rfl, N0, rfl⟩ (by decide) (by decide) fun fs hr => ?_
  show St p e below s₁ m 0 #[iv p1, .val (.long q2), .second, iv p3] [] _
  refine iN X0 hx hby d0_0 rfl ?_
  refine iN X0 hx hby d0_1 rfl ?_
  refine XS.iushr X0.here hx rfl (hb hby d0_2) rfl ?_
  refine iC X0 hx hby d0_3 ?_
  refine XS.iand X0.here hx rfl (hb hby d0_4) rfl ?_
  refine XS.ifYes X0.here hx rfl (pc0 := 5) (pc' := 11) rfl (hb hby d0_5) rfl ((if0 _ _).trans (teq hc4).1) (by decide) (by decide) ?_
  refine XS.lloadN X0.here hx rfl (hb hby d0_11) rfl ?_
  refine XS.bipush X0.here hx rfl (hb hby d0_12) ?_
  refine iN X0 hx hby d0_14 rfl ?_
  refine XS.imul X0.here hx rfl (hb hby d0_15) rfl ?_
  refine XS.lushr X0.here hx rfl (hb hby d0_16) rfl ?_
  refine XS.l2i X0.here hx rfl (hb hby d0_17) rfl ?_
  refine XS.sipush X0.here hx rfl (hb hby d0_18) ?_
  refine XS.iand X0.here hx rfl (hb hby d0_21) rfl ?_
  refine XS.i2c X0.here hx rfl (hb hby d0_22) rfl ?_
  exact retN X0 hx (t := .char) Bd.returns (by simp) (hb hby d0_23) hr
theorem own_pick (l : Launch) (Z : State) (a0 : Array Value) (hw : HW a0 Z) (ws : List Jvm.Cond) (p1:Int32) (q2 : Int64) (p3:Int32) (h0 : Heap) (n0 : Nat) (O0 : Old Z n0 h0) :
    MF l y0 method_3_code 4 (some .char) ws ({ frames := 0, cells := 0, slots := 0, locals := 0 } : Room) Z #[(.int p1), (.long q2), (.int p3)] h0 (own_iQ (own_pk p1 q2 p3) h0 n0) := by
  by_cases q : (((p1.toUInt32 >>> (p3 &&& 31).toUInt32).toInt32) &&& (1:Int32)) = (0:Int32)
  · rw [show own_pk p1 q2 p3 = (nar .char (((((q2.toUInt64 >>> (((8:Int32) * p3) &&& 0x3f).toInt64.toUInt64).toInt64).toInt32) &&& (255:Int32)).toUInt32.toUInt16.toUInt32.toInt32)) from if_pos q]
    exact r0_2 l Z a0 hw ws p1 q2 p3 h0 n0 O0 q
  · rw [show own_pk p1 q2 p3 = 44 from if_neg q]
    exact r0_1 l Z a0 hw ws p1 q2 p3 h0 n0 O0 q
theorem pd11 : parseMethodDescriptor "(IJI)C" = some ⟨[.int, .long, .int], some .char⟩ := by decide +kernel
abbrev xE0 (Z : State) (h : Heap) (a : Addr) : Prop := Exa Z h a "[C"
theorem g1_1 (p1:Int32) (q2 : Int64) (p3:Int32)
    (H0 : SG p l e R s m args below meth c T0 locs cells slots Z a0 h0 n0 1 6 1 17) :
    ∃ (T' : State) (h' : Heap) (L' : List Loc) (b4 : Addr) (k4 : ClassId), Stand p l e R s m args below meth c T' L' (cells + 1) (slots + 6) ∧ T'.heap = h' ∧ Fr n0 L' ∧ Keep h0 h' [] ∧ h0.size ≤ b4 ∧ Arv Z h' b4 k4 .char (6:Int32) [(.int (own_pk p1 q2 (0:Int32))), (.int (own_pk p1 q2 (1:Int32))), (.int (own_pk p1 q2 (2:Int32))), (.int (own_pk p1 q2 (3:Int32))), (.int (own_pk p1 q2 (4:Int32))), (.int (own_pk p1 q2 (5:Int32)))] (.int (0:Int32)) ∧ xE0 Z h' b4 ∧
      ∀ target, St p e below T' m 74 #[iv p1, .val (.long q2), .second, iv p3, rv b4, un, un, un, un] [] target → St p e below T0 m 8 #[iv p1, .val (.long q2), .second, iv p3, un, un, un, un, un] [] target := by
  obtain ⟨X0, hx, hZ, hw, hby, hml, hown, e0, O0, N0, rc, rs, rf, rl⟩ := H0
  obtain ⟨_, h4, k4, X4, e4, E4, A4, C4, st4⟩ := newPE X0 hx hZ (aty := .char) (ow hw 0 rfl) e0 (g := (mkF m 10 #[iv p1, .val (.long q2), .second, iv p3, un, un, un, un, un] [(.int (6:Int32))])) rfl (hb hby at_10) rfl (by decide) (cap := 6) (by decide) (by decide) (by omega) (by omega) (ad := "[C") (by decide)
  obtain ⟨b4, g4⟩ : ∃ z, z = h0.size := ⟨_, rfl⟩
  rw [← g4] at A4 C4 st4
  have O_E4 : Old Z n0 h4 := O0.ext E4
  have Kp_E4 : Keep h0 h4 [] := (Keep.refl h0 []).ext E4
  have V4 : Arv Z h4 b4 k4 .char (6:Int32) [(.int (0:Int32)), (.int (0:Int32)), (.int (0:Int32)), (.int (0:Int32)), (.int (0:Int32)), (.int (0:Int32))] (.int (0:Int32)) := (Arv.new A4 (by decide)).pad (pad_rep [] (.int (0:Int32)) 6)
  obtain ⟨T5, _, _, X5, hQ5, st5⟩ := cS X4 hx hZ hw hown (y := y0) 1 rfl 2 rfl 3 rfl 4 rfl (by decide) (W := 2) (own_pick l Z a0 hw [] p1 q2 (0:Int32) h4 n0 O_E4) (by show 0 + 1 ≤ R.frames; omega) (by show 2 + (4 + 11) + 0 ≤ R.locals; omega) e4 (g := (mkF m 20 #[iv p1, .val (.long q2), .second, iv p3, rv b4, un, un, un, un] [(.int (0:Int32)), (.long q2), (.int p1), (.int (0:Int32)), (.ref b4)])) rfl (by rw [hml]; rfl) (argsL := [(.int p1), (.long q2), (.int (0:Int32))]) (rest := [(.int (0:Int32)), (.ref b4)]) (lenOf pd11 rfl) rfl wf (hb hby at_20) rfl (by show cells + 1 + 0 ≤ R.cells; omega) (by show slots + 6 + 0 ≤ R.slots; omega)
  obtain ⟨rfl, N5q, e5⟩ := hQ5
  have N5 := Fr.app N0 N5q
  replace X5 : Stand p l e R _ m args below meth c T5 _ (cells + 1) (slots + 6) := X5
  obtain ⟨cl6, Ar6, q6, S6, M6, H6, G6⟩ := id V4
  have hin6 : ¬ ((0:Int32) < 0 ∨ cl6.slots.size ≤ ((0:Int32)).toNatClampNeg) := inb_of S6 ⟨by decide, by decide⟩
  obtain ⟨_, h6, X6, e6, W6, st6⟩ := stC X5 hx hZ e5 Ar6 (j := (0:Int32)) hin6 (g := (mkF m 23 #[iv p1, .val (.long q2), .second, iv p3, rv b4, un, un, un, un] [(.int (own_pk p1 q2 (0:Int32))), (.int (0:Int32)), (.ref b4)])) rfl rfl (hb hby at_23)
  have g8 : n0 ≤ b4 := Nat.le_trans (Nat.le_trans (Nat.le_of_eq O0.1.symm) O0.2.1) (Nat.le_of_eq g4.symm)
  have z9 : h0.size ≤ b4 := Nat.le_trans (Keep.refl h0 []).1 (Nat.le_of_eq g4.symm)
  have O_W6 : Old Z n0 h6 := O_E4.wr W6 g8
  have Kp_W6 : Keep h0 h6 [] := Kp_E4.wr W6 (Or.inr z9)
  have N10 := Fr.snoc X6 N5 g8
  have f7 : Arv Z h6 b4 k4 .char (6:Int32) [(.int (own_pk p1 q2 (0:Int32))), (.int (0:Int32)), (.int (0:Int32)), (.int (0:Int32)), (.int (0:Int32)), (.int (0:Int32))] (.int (0:Int32)) := by simpa only [own_pkn, List.set] using Arv.set Ar6 q6 S6 M6 H6 G6 (fits_nar_char _) W6 0 rfl (Nat.le_of_ble_eq_true rfl)
  obtain ⟨T11, _, _, X11, hQ11, st11⟩ := cS X6 hx hZ hw hown (y := y0) 1 rfl 2 rfl 3 rfl 4 rfl (by decide) (W := 2) (own_pick l Z a0 hw [] p1 q2 (1:Int32) h6 n0 O_W6) (by show 0 + 1 ≤ R.frames; omega) (by show 2 + (4 + 11) + 0 ≤ R.locals; omega) e6 (g := (mkF m 30 #[iv p1, .val (.long q2), .second, iv p3, rv b4, un, un, un, un] [(.int (1:Int32)), (.long q2), (.int p1), (.int (1:Int32)), (.ref b4)])) rfl (by rw [hml]; rfl) (argsL := [(.int p1), (.long q2), (.int (1:Int32))]) (rest := [(.int (1:Int32)), (.ref b4)]) (lenOf pd11 rfl) rfl wf (hb hby at_30) rfl (by show cells + 1 + 0 ≤ R.cells; omega) (by show slots + 6 + 0 ≤ R.slots; omega)
  obtain ⟨rfl, N11q, e11⟩ := hQ11
  have N11 := Fr.app N10 N11q
  replace X11 : Stand p l e R _ m args below meth c T11 _ (cells + 1) (slots + 6) := X11
  obtain ⟨cl12, Ar12, q12, S12, M12, H12, G12⟩ := id f7
  have hin12 : ¬ ((1:Int32) < 0 ∨ cl12.slots.size ≤ ((1:Int32)).toNatClampNeg) := inb_of S12 ⟨by decide, by decide⟩
  obtain ⟨_, h12, X12, e12, W12, st12⟩ := stC X11 hx hZ e11 Ar12 (j := (1:Int32)) hin12 (g := (mkF m 33 #[iv p1, .val (.long q2), .second, iv p3, rv b4, un, un, un, un] [(.int (own_pk p1 q2 (1:Int32))), (.int (1:Int32)), (.ref b4)])) rfl rfl (hb hby at_33)
  have O_W12 : Old Z n0 h12 := O_W6.wr W12 g8
  have Kp_W12 : Keep h0 h12 [] := Kp_W6.wr W12 (Or.inr z9)
  have N14 := Fr.snoc X12 N11 g8
  have f13 : Arv Z h12 b4 k4 .char (6:Int32) [(.int (own_pk p1 q2 (0:Int32))), (.int (own_pk p1 q2 (1:Int32))), (.int (0:Int32)), (.int (0:Int32)), (.int (0:Int32)), (.int (0:Int32))] (.int (0:Int32)) := by simpa only [own_pkn, List.set] using Arv.set Ar12 q12 S12 M12 H12 G12 (fits_nar_char _) W12 1 rfl (Nat.le_of_ble_eq_true rfl)
  obtain ⟨T15, _, _, X15, hQ15, st15⟩ := cS X12 hx hZ hw hown (y := y0) 1 rfl 2 rfl 3 rfl 4 rfl (by decide) (W := 2) (own_pick l Z a0 hw [] p1 q2 (2:Int32) h12 n0 O_W12) (by show 0 + 1 ≤ R.frames; omega) (by show 2 + (4 + 11) + 0 ≤ R.locals; omega) e12 (g := (mkF m 40 #[iv p1, .val (.long q2), .second, iv p3, rv b4, un, un, un, un] [(.int (2:Int32)), (.long q2), (.int p1), (.int (2:Int32)), (.ref b4)])) rfl (by rw [hml]; rfl) (argsL := [(.int p1), (.long q2), (.int (2:Int32))]) (rest := [(.int (2:Int32)), (.ref b4)]) (lenOf pd11 rfl) rfl wf (hb hby at_40) rfl (by show cells + 1 + 0 ≤ R.cells; omega) (by show slots + 6 + 0 ≤ R.slots; omega)
  obtain ⟨rfl, N15q, e15⟩ := hQ15
  have N15 := Fr.app N14 N15q
  replace X15 : Stand p l e R _ m args below meth c T15 _ (cells + 1) (slots + 6) := X15
  obtain ⟨cl16, Ar16, q16, S16, M16, H16, G16⟩ := id f13
  have hin16 : ¬ ((2:Int32) < 0 ∨ cl16.slots.size ≤ ((2:Int32)).toNatClampNeg) := inb_of S16 ⟨by decide, by decide⟩
  obtain ⟨T16, h16, X16, e16, W16, st16⟩ := stC X15 hx hZ e15 Ar16 (j := (2:Int32)) hin16 (g := (mkF m 43 #[iv p1, .val (.long q2), .second, iv p3, rv b4, un, un, un, un] [(.int (own_pk p1 q2 (2:Int32))), (.int (2:Int32)), (.ref b4)])) rfl rfl (hb hby at_43)
  have O_W16 : Old Z n0 h16 := O_W12.wr W16 g8
  have Kp_W16 : Keep h0 h16 [] := Kp_W12.wr W16 (Or.inr z9)
  have N18 := Fr.snoc X16 N15 g8
  have f17 : Arv Z h16 b4 k4 .char (6:Int32) [(.int (own_pk p1 q2 (0:Int32))), (.int (own_pk p1 q2 (1:Int32))), (.int (own_pk p1 q2 (2:Int32))), (.int (0:Int32)), (.int (0:Int32)), (.int (0:Int32))] (.int (0:Int32)) := by simpa only [own_pkn, List.set] using Arv.set Ar16 q16 S16 M16 H16 G16 (fits_nar_char _) W16 2 rfl (Nat.le_of_ble_eq_true rfl)
  obtain ⟨T19, _, _, X19, hQ19, st19⟩ := cS X16 hx hZ hw hown (y := y0) 1 rfl 2 rfl 3 rfl 4 rfl (by decide) (W := 2) (own_pick l Z a0 hw [] p1 q2 (3:Int32) h16 n0 O_W16) (by show 0 + 1 ≤ R.frames; omega) (by show 2 + (4 + 11) + 0 ≤ R.locals; omega) e16 (g := (mkF m 50 #[iv p1, .val (.long q2), .second, iv p3, rv b4, un, un, un, un] [(.int (3:Int32)), (.long q2), (.int p1), (.int (3:Int32)), (.ref b4)])) rfl (by rw [hml]; rfl) (argsL := [(.int p1), (.long q2), (.int (3:Int32))]) (rest := [(.int (3:Int32)), (.ref b4)]) (lenOf pd11 rfl) rfl wf (hb hby at_50) rfl (by show cells + 1 + 0 ≤ R.cells; omega) (by show slots + 6 + 0 ≤ R.slots; omega)
  obtain ⟨rfl, N19q, e19⟩ := hQ19
  have N19 := Fr.app N18 N19q
  replace X19 : Stand p l e R _ m args below meth c T19 _ (cells + 1) (slots + 6) := X19
  obtain ⟨cl20, Ar20, q20, S20, M20, H20, G20⟩ := id f17
  have hin20 : ¬ ((3:Int32) < 0 ∨ cl20.slots.size ≤ ((3:Int32)).toNatClampNeg) := inb_of S20 ⟨by decide, by decide⟩
  obtain ⟨_, h20, X20, e20, W20, st20⟩ := stC X19 hx hZ e19 Ar20 (j := (3:Int32)) hin20 (g := (mkF m 53 #[iv p1, .val (.long q2), .second, iv p3, rv b4, un, un, un, un] [(.int (own_pk p1 q2 (3:Int32))), (.int (3:Int32)), (.ref b4)])) rfl rfl (hb hby at_53)
  have O_W20 : Old Z n0 h20 := O_W16.wr W20 g8
  have Kp_W20 : Keep h0 h20 [] := Kp_W16.wr W20 (Or.inr z9)
  have N22 := Fr.snoc X20 N19 g8
  have f21 : Arv Z h20 b4 k4 .char (6:Int32) [(.int (own_pk p1 q2 (0:Int32))), (.int (own_pk p1 q2 (1:Int32))), (.int (own_pk p1 q2 (2:Int32))), (.int (own_pk p1 q2 (3:Int32))), (.int (0:Int32)), (.int (0:Int32))] (.int (0:Int32)) := by simpa only [own_pkn, List.set] using Arv.set Ar20 q20 S20 M20 H20 G20 (fits_nar_char _) W20 3 rfl (Nat.le_of_ble_eq_true rfl)
  obtain ⟨T23, _, _, X23, hQ23, st23⟩ := cS X20 hx hZ hw hown (y := y0) 1 rfl 2 rfl 3 rfl 4 rfl (by decide) (W := 2) (own_pick l Z a0 hw [] p1 q2 (4:Int32) h20 n0 O_W20) (by show 0 + 1 ≤ R.frames; omega) (by show 2 + (4 + 11) + 0 ≤ R.locals; omega) e20 (g := (mkF m 60 #[iv p1, .val (.long q2), .second, iv p3, rv b4, un, un, un, un] [(.int (4:Int32)), (.long q2), (.int p1), (.int (4:Int32)), (.ref b4)])) rfl (by rw [hml]; rfl) (argsL := [(.int p1), (.long q2), (.int (4:Int32))]) (rest := [(.int (4:Int32)), (.ref b4)]) (lenOf pd11 rfl) rfl wf (hb hby at_60) rfl (by show cells + 1 + 0 ≤ R.cells; omega) (by show slots + 6 + 0 ≤ R.slots; omega)
  obtain ⟨rfl, N23q, e23⟩ := hQ23
  have N23 := Fr.app N22 N23q
  replace X23 : Stand p l e R _ m args below meth c T23 _ (cells + 1) (slots + 6) := X23
  obtain ⟨cl24, Ar24, q24, S24, M24, H24, G24⟩ := id f21
  have hin24 : ¬ ((4:Int32) < 0 ∨ cl24.slots.size ≤ ((4:Int32)).toNatClampNeg) := inb_of S24 ⟨by decide, by decide⟩
  obtain ⟨_, h24, X24, e24, W24, st24⟩ := stC X23 hx hZ e23 Ar24 (j := (4:Int32)) hin24 (g := (mkF m 63 #[iv p1, .val (.long q2), .second, iv p3, rv b4, un, un, un, un] [(.int (own_pk p1 q2 (4:Int32))), (.int (4:Int32)), (.ref b4)])) rfl rfl (hb hby at_63)
  have O_W24 : Old Z n0 h24 := O_W20.wr W24 g8
  have Kp_W24 : Keep h0 h24 [] := Kp_W20.wr W24 (Or.inr z9)
  have N26 := Fr.snoc X24 N23 g8
  have f25 : Arv Z h24 b4 k4 .char (6:Int32) [(.int (own_pk p1 q2 (0:Int32))), (.int (own_pk p1 q2 (1:Int32))), (.int (own_pk p1 q2 (2:Int32))), (.int (own_pk p1 q2 (3:Int32))), (.int (own_pk p1 q2 (4:Int32))), (.int (0:Int32))] (.int (0:Int32)) := by simpa only [own_pkn, List.set] using Arv.set Ar24 q24 S24 M24 H24 G24 (fits_nar_char _) W24 4 rfl (Nat.le_of_ble_eq_true rfl)
  obtain ⟨T27, _, _, X27, hQ27, st27⟩ := cS X24 hx hZ hw hown (y := y0) 1 rfl 2 rfl 3 rfl 4 rfl (by decide) (W := 2) (own_pick l Z a0 hw [] p1 q2 (5:Int32) h24 n0 O_W24) (by show 0 + 1 ≤ R.frames; omega) (by show 2 + (4 + 11) + 0 ≤ R.locals; omega) e24 (g := (mkF m 70 #[iv p1, .val (.long q2), .second, iv p3, rv b4, un, un, un, un] [(.int (5:Int32)), (.long q2), (.int p1), (.int (5:Int32)), (.ref b4)])) rfl (by rw [hml]; rfl) (argsL := [(.int p1), (.long q2), (.int (5:Int32))]) (rest := [(.int (5:Int32)), (.ref b4)]) (lenOf pd11 rfl) rfl wf (hb hby at_70) rfl (by show cells + 1 + 0 ≤ R.cells; omega) (by show slots + 6 + 0 ≤ R.slots; omega)
  obtain ⟨rfl, N27q, e27⟩ := hQ27
  have N27 := Fr.app N26 N27q
  replace X27 : Stand p l e R _ m args below meth c T27 _ (cells + 1) (slots + 6) := X27
  obtain ⟨cl28, Ar28, q28, S28, M28, H28, G28⟩ := id f25
  have hin28 : ¬ ((5:Int32) < 0 ∨ cl28.slots.size ≤ ((5:Int32)).toNatClampNeg) := inb_of S28 ⟨by decide, by decide⟩
  obtain ⟨T28, h28, X28, e28, W28, st28⟩ := stC X27 hx hZ e27 Ar28 (j := (5:Int32)) hin28 (g := (mkF m 73 #[iv p1, .val (.long q2), .second, iv p3, rv b4, un, un, un, un] [(.int (own_pk p1 q2 (5:Int32))), (.int (5:Int32)), (.ref b4)])) rfl rfl (hb hby at_73)
  have Kp_W28 : Keep h0 h28 [] := Kp_W24.wr W28 (Or.inr z9)
  have N30 := Fr.snoc X28 N27 g8
  have f29 : Arv Z h28 b4 k4 .char (6:Int32) [(.int (own_pk p1 q2 (0:Int32))), (.int (own_pk p1 q2 (1:Int32))), (.int (own_pk p1 q2 (2:Int32))), (.int (own_pk p1 q2 (3:Int32))), (.int (own_pk p1 q2 (4:Int32))), (.int (own_pk p1 q2 (5:Int32)))] (.int (0:Int32)) := by simpa only [own_pkn, List.set] using Arv.set Ar28 q28 S28 M28 H28 G28 (fits_nar_char _) W28 5 rfl (Nat.le_of_ble_eq_true rfl)
  have f31 := ((((((C4.wr W6).wr W12).wr W16).wr W20).wr W24).wr W28)
  refine ⟨T28, _, _, b4, k4, X28.more (by omega) (by omega), e28, N30, Kp_W28, z9, f29, f31, fun target kt => ?_⟩
  show St p e below T0 m 8 #[iv p1, .val (.long q2), .second, iv p3, un, un, un, un, un] [] _
  refine XS.bipush X0.here hx rfl (hb hby at_8) ?_
  refine st4 _ ?_
  refine XS.astore X4.here hx rfl (hb hby at_12) rfl rfl (l' := #[iv p1, .val (.long q2), .second, iv p3, rv b4, un, un, un, un]) rfl ?_
  refine aL X4 hx hby at_14 rfl rfl ?_
  refine iC X4 hx hby at_16 ?_
  refine iN X4 hx hby at_17 rfl ?_
  refine XS.lloadN X4.here hx rfl (hb hby at_18) rfl ?_
  refine iC X4 hx hby at_19 ?_
  refine st5 _ ?_
  refine st6 _ ?_
  refine aL X6 hx hby at_24 rfl rfl ?_
  refine iC X6 hx hby at_26 ?_
  refine iN X6 hx hby at_27 rfl ?_
  refine XS.lloadN X6.here hx rfl (hb hby at_28) rfl ?_
  refine iC X6 hx hby at_29 ?_
  refine st11 _ ?_
  refine st12 _ ?_
  refine aL X12 hx hby at_34 rfl rfl ?_
  refine iC X12 hx hby at_36 ?_
  refine iN X12 hx hby at_37 rfl ?_
  refine XS.lloadN X12.here hx rfl (hb hby at_38) rfl ?_
  refine iC X12 hx hby at_39 ?_
  refine st15 _ ?_
  refine st16 _ ?_
  refine aL X16 hx hby at_44 rfl rfl ?_
  show St p e below T16 m 46 #[iv p1, .val (.long q2), .second, iv p3, rv b4, un, un, un, un] [(.ref b4)] _
  refine iC X16 hx hby at_46 ?_
  refine iN X16 hx hby at_47 rfl ?_
  refine XS.lloadN X16.here hx rfl (hb hby at_48) rfl ?_
  refine iC X16 hx hby at_49 ?_
  refine st19 _ ?_
  refine st20 _ ?_
  refine aL X20 hx hby at_54 rfl rfl ?_
  refine iC X20 hx hby at_56 ?_
  refine iN X20 hx hby at_57 rfl ?_
  refine XS.lloadN X20.here hx rfl (hb hby at_58) rfl ?_
  refine iC X20 hx hby at_59 ?_
  refine st23 _ ?_
  refine st24 _ ?_
  refine aL X24 hx hby at_64 rfl rfl ?_
  refine iC X24 hx hby at_66 ?_
  refine iN X24 hx hby at_67 rfl ?_
  refine XS.lloadN X24.here hx rfl (hb hby at_68) rfl ?_
  refine iC X24 hx hby at_69 ?_
  refine st27 _ ?_
  refine st28 _ ?_
  exact kt
theorem d2_0 : dk method_4_code 0 (.iload_n 1) 1 := by decide +kernel
theorem d2_1 : dk method_4_code 1 (.ifCond .ne 6) 3 := by decide +kernel
theorem d2_4 : dk method_4_code 4 (.ldc 33) 2 := by decide +kernel
theorem strW : ∀ a ∈ Bundle.stringAtoms, a ∈ tables_1 := by decide +kernel
theorem d2_6 : dk method_4_code 6 .areturn 1 := by decide +kernel
abbrev xE1 (Z : State) (h : Heap) (a : Addr) : Prop := Exa Z h a "java/lang/String"
abbrev xF2 (Z : State) (h : Heap) (a : Addr) (v : Value) : Prop := Fld Z h a "java/lang/String" "coder" "B" v
abbrev xF3 (Z : State) (h : Heap) (a : Addr) (v : Value) : Prop := Fld Z h a "java/lang/String" "value" "[B" v
abbrev y2 : MethodName := ⟨"com/example/novation/novation/CsvFieldsPinLaw", "str", "([CI)Ljava/lang/String;"⟩
def r2_1Q (Z : State) (a1 : Addr) (k2 : ClassId) (p3 p4 p5 p6 p7 p8:Int32) (h0 : Heap) (n0 : Nat) : QT := fun v h L => own_strQ Z [] h0 n0 v h L
theorem r2_1 (l : Launch) (Z : State) (a0 : Array Value) (hw : HW a0 Z) (ws : List Jvm.Cond) (a1 : Addr) (k2 : ClassId) (p3 p4 p5 p6 p7 p8:Int32) (h0 : Heap) (n0 : Nat) (O0 : Old Z n0 h0) (H9 : Arv Z h0 a1 k2 .char (6:Int32) [(.int p3), (.int p4), (.int p5), (.int p6), (.int p7), (.int p8)] (.int (0:Int32))) :
    MFH l y2 method_4_code 2 (some (.object "java/lang/String")) ws (rM 0 2 4 0) Z #[(.ref a1), (.int (0:Int32))] h0 (r2_1Q Z a1 k2 p3 p4 p5 p6 p7 p8 h0 n0) := by
  refine own_inH (pq pn0) #[rv a1, iv (0:Int32)] (fun _ => by first | (simp [entryFrame, mkF, argsToLocals, Value.category]; done) | rfl) ?_
  intro p e s m below meth c s₁ Bd hx hby hml hown hnm hZ hh C0 e0 X0
  have N0 := Fr.nil n0
  obtain ⟨a10, T10, h10, _, b10, k10, X10, e10, E10, hS10, hk10, hZ10, _, Ea10, Fc10, Fv10, Ab10, -, -, Cq10, -, _, st10⟩ := ldcCH (s := s) (vm0 := s.vm) X0 hx hZ (own := "com/example/novation/novation/CsvFieldsPinLaw") hown (ow hw 8 rfl) (fun d hd => hw d (strW d hd)) e0 (State.WarmedH.since (State.WarmedH.refl s) 0) (Nat.zero_le _) (own_EW hw) (List.mem_of_getElem? (i := 0) rfl) C0.1 (vs := []) (z := 0) own_lit0 (by decide) rfl (g := (mkF m 4 #[rv a1, iv (0:Int32)] [])) rfl (hb hby d2_4) (n := 0) (by decide) (by decide) (by decide) (by decide)
  have Kp_E10 : Keep h0 h10 [] := (Keep.refl h0 []).ext E10
  have c_E10 := Cq10
  have C_E10 := C0.trans c_E10
  have Av10 : Arv Z h10 b10 k10 .byte (own_tn []) (own_tb []) (.int (0:Int32)) := Ab10
  refine finH (Q := r2_1Q Z a1 k2 p3 p4 p5 p6 p7 p8 h0 n0) (rm := (rM 0 2 4 0)) (vm := T10.vm) Bd X10 hZ10 (own_EW hw) C_E10 hh e10 hS10 hk10 (some (.ref a10)) nofun ⟨a10, b10, k10, rfl, N0, Kp_E10, Ea10, Fv10, Fc10, Av10⟩ (by decide) (by decide) fun fs hr => ?_
  show St p e below s₁ m 0 #[rv a1, iv (0:Int32)] [] _
  refine iN X0 hx hby d2_0 rfl ?_
  refine XS.ifNo X0.here hx rfl (hb hby d2_1) rfl ((if0 _ _).trans (teq (rfl : (0:Int32) = (0:Int32))).2) ?_
  refine st10 _ ?_
  exact retA X10 hx Bd.returns rfl rfl (hb hby d2_6) hr
theorem pd4 : parseMethodDescriptor "([CI)Ljava/lang/String;" = some ⟨[(.array .char), .int], some (.object "java/lang/String")⟩ := by decide +kernel
theorem d3_0 : dk cP22_2 0 (.aload_n 0) 1 := by decide +kernel
theorem d3_1 : dk cP22_2 1 (.invokestatic 7) 3 := by decide +kernel
theorem d4_0 : dk cP22_6 0 (.iconst 0) 1 := by decide +kernel
theorem d4_1 : dk cP22_6 1 (.istore_n 1) 1 := by decide +kernel
theorem d4_2 : dk cP22_6 2 (.aload_n 0) 1 := by decide +kernel
theorem d4_3 : dk cP22_6 3 (.bipush 44) 2 := by decide +kernel
theorem d4_5 : dk cP22_6 5 (.invokevirtual 132) 3 := by decide +kernel
theorem d5_0 : dk jdk_42_method_79_code 0 (.aload_n 0) 1 := by decide +kernel
theorem d5_1 : dk jdk_42_method_79_code 1 (.iload_n 1) 1 := by decide +kernel
theorem d5_2 : dk jdk_42_method_79_code 2 (.iconst 0) 1 := by decide +kernel
theorem d5_3 : dk jdk_42_method_79_code 3 (.invokevirtual 633) 3 := by decide +kernel
theorem d6_0 : dk cJ42_80 0 (.aload_n 0) 1 := by decide +kernel
theorem d6_1 : dk cJ42_80 1 (.invokevirtual 492) 3 := by decide +kernel
theorem d7_0 : dk cJ42_154 0 (.getstatic 38) 3 := by decide +kernel
theorem d7_3 : dk cJ42_154 3 (.ifCond .eq 14) 3 := by decide +kernel
theorem d7_6 : dk cJ42_154 6 (.aload_n 0) 1 := by decide +kernel
theorem d7_7 : dk cJ42_154 7 (.getfield 15) 3 := by decide +kernel
theorem d7_10 : dk cJ42_154 10 (.ifCond .ne 7) 3 := by decide +kernel
theorem d7_13 : dk cJ42_154 13 (.iconst 1) 1 := by decide +kernel
theorem d7_14 : dk cJ42_154 14 (.goto 4) 3 := by decide +kernel
theorem d7_18 : dk cJ42_154 18 .ireturn 1 := by decide +kernel
abbrev y7 : MethodName := ⟨"java/lang/String", "isLatin1", "()Z"⟩
theorem pn5 : plainName "java/lang/String" = true := by first | (simp [plainName, overriddenIn]; done) | decide +kernel
def r7_1Q (Z : State) (a1 : Addr) (p2:Int32) (h0 : Heap) (n0 : Nat) : QT := fun v h L => v = some (.int (1:Int32)) ∧ Fr n0 L ∧ h = h0
theorem r7_1 (l : Launch) (Z : State) (a0 : Array Value) (hw : HW a0 Z) (ws : List Jvm.Cond) (a1 : Addr) (p2:Int32) (h0 : Heap) (n0 : Nat) (O0 : Old Z n0 h0) (H3 : Sta Z Z.heap "java/lang/String" "COMPACT_STRINGS" "Z" (.int p2)) (hc5 : ¬ (p2 = (0:Int32))) (H6 : xF2 Z h0 a1 (.int (0:Int32))) :
    MF l y7 cJ42_154 1 (some .boolean) ws (rM 0 0 0 0) Z #[(.ref a1)] h0 (r7_1Q Z a1 p2 h0 n0) := by
  refine own_in (pq pn5) #[rv a1] (fun _ => by first | (simp [entryFrame, mkF, argsToLocals, Value.category]; done) | rfl) ?_
  intro p e s m below meth c s₁ Bd hx hby hml hown hnm hZ e0 X0
  have N0 := Fr.nil n0
  obtain ⟨_, X4, e4, st4⟩ := getS2 X0 hx hZ hown (host := "") (Or.inl (ow hw 38 rfl)) Via.refl e0 (H3.ext O0.2) (g := (mkF m 0 #[rv a1] [])) rfl (hb hby d7_0)
  obtain ⟨_, X7, e7, st7⟩ := gF X4 hx hZ hown (ow hw 39 rfl) e4 H6 (g := (mkF m 7 #[rv a1] [(.ref a1)])) rfl rfl (hb hby d7_7)
  refine fin (Q := r7_1Q Z a1 p2 h0 n0) (rm := (rM 0 0 0 0)) Bd X7 e7 (some (.int (1:Int32))) nofun ⟨rfl, N0, rfl⟩ (by decide) (by decide) fun fs hr => ?_
  show St p e below s₁ m 0 #[rv a1] [] _
  refine st4 _ ?_
  refine XS.ifNo X4.here hx rfl (hb hby d7_3) rfl ((if0 _ _).trans (feq hc5).1) ?_
  refine aN X4 hx hby d7_6 rfl rfl ?_
  refine st7 _ ?_
  refine XS.ifNo X7.here hx rfl (hb hby d7_10) rfl ((if0 _ _).trans (teq (rfl : (0:Int32) = (0:Int32))).2) ?_
  refine iC X7 hx hby d7_13 ?_
  refine XS.goto X7.here hx rfl (pc0 := 14) (pc' := 18) rfl (hb hby d7_14) (by decide) (by decide) ?_
  exact retN X7 hx (t := .boolean) Bd.returns (by simp) (hb hby d7_18) hr
theorem pd22 : parseMethodDescriptor "()Z" = some ⟨[], some .boolean⟩ := by decide +kernel
theorem d6_4 : dk cJ42_80 4 (.ifCond .eq 19) 3 := by decide +kernel
theorem d6_7 : dk cJ42_80 7 (.aload_n 0) 1 := by decide +kernel
theorem d6_8 : dk cJ42_80 8 (.getfield 9) 3 := by decide +kernel
theorem d6_11 : dk cJ42_80 11 (.iload_n 1) 1 := by decide +kernel
theorem d6_12 : dk cJ42_80 12 (.iload_n 2) 1 := by decide +kernel
theorem d6_13 : dk cJ42_80 13 (.aload_n 0) 1 := by decide +kernel
theorem d6_14 : dk cJ42_80 14 (.invokevirtual 505) 3 := by decide +kernel
theorem pd23 : parseMethodDescriptor "()I" = some ⟨[], some .int⟩ := by decide +kernel
abbrev y8 : MethodName := ⟨"java/lang/String", "length", "()I"⟩
theorem d6_17 : dk cJ42_80 17 (.invokestatic 637) 3 := by decide +kernel
theorem d9_0 : dk cJ43_22 0 (.iload_n 1) 1 := by decide +kernel
theorem d9_1 : dk cJ43_22 1 (.invokestatic 88) 3 := by decide +kernel
theorem d10_0 : dk cJ43_4 0 (.iload_n 0) 1 := by decide +kernel
theorem d10_1 : dk cJ43_4 1 (.ifCond .lt 14) 3 := by decide +kernel
theorem d10_4 : dk cJ43_4 4 (.iload_n 0) 1 := by decide +kernel
theorem d10_5 : dk cJ43_4 5 (.sipush 255) 3 := by decide +kernel
theorem d10_8 : dk cJ43_4 8 (.if_icmp .gt 7) 3 := by decide +kernel
theorem d10_11 : dk cJ43_4 11 (.iconst 1) 1 := by decide +kernel
theorem d10_12 : dk cJ43_4 12 (.goto 4) 3 := by decide +kernel
theorem d10_16 : dk cJ43_4 16 .ireturn 1 := by decide +kernel
abbrev y10 : MethodName := ⟨"java/lang/StringLatin1", "canEncode", "(I)Z"⟩
theorem pn3 : plainName "java/lang/StringLatin1" = true := by first | (simp [plainName, overriddenIn]; done) | decide +kernel
def r10_1Q (Z : State) (h0 : Heap) (n0 : Nat) : QT := fun v h L => v = some (.int (1:Int32)) ∧ Fr n0 L ∧ h = h0
theorem r10_1 (l : Launch) (Z : State) (a0 : Array Value) (hw : HW a0 Z) (ws : List Jvm.Cond) (h0 : Heap) (n0 : Nat) (O0 : Old Z n0 h0) :
    MF l y10 cJ43_4 1 (some .boolean) ws (rM 0 0 0 0) Z #[(.int (44:Int32))] h0 (r10_1Q Z h0 n0) := by
  refine own_in (pq pn3) #[iv (44:Int32)] (fun _ => by first | (simp [entryFrame, mkF, argsToLocals, Value.category]; done) | rfl) ?_
  intro p e s m below meth c s₁ Bd hx hby hml hown hnm hZ e0 X0
  have N0 := Fr.nil n0
  refine fin (Q := r10_1Q Z h0 n0) (rm := (rM 0 0 0 0)) Bd X0 e0 (some (.int (1:Int32))) nofun ⟨rfl, N0, rfl⟩ (by decide) (by decide) fun fs hr => ?_
  show St p e below s₁ m 0 #[iv (44:Int32)] [] _
  refine iN X0 hx hby d10_0 rfl ?_
  refine XS.ifNo X0.here hx rfl (hb hby d10_1) rfl ((if0 _ _).trans (flt (by decide : ¬ ((44:Int32) < (0:Int32)))).1) ?_
  refine iN X0 hx hby d10_4 rfl ?_
  refine XS.sipush X0.here hx rfl (hb hby d10_5) ?_
  refine XS.icmpNo X0.here hx rfl (hb hby d10_8) rfl (flt (by decide : ¬ ((255:Int32) < (44:Int32)))).2.2.1 ?_
  refine iC X0 hx hby d10_11 ?_
  refine XS.goto X0.here hx rfl (pc0 := 12) (pc' := 16) rfl (hb hby d10_12) (by decide) (by decide) ?_
  exact retN X0 hx (t := .boolean) Bd.returns (by simp) (hb hby d10_16) hr
theorem pd18 : parseMethodDescriptor "(I)Z" = some ⟨[.int], some .boolean⟩ := by decide +kernel
theorem d9_4 : dk cJ43_22 4 (.ifCond .ne 5) 3 := by decide +kernel
theorem d9_9 : dk cJ43_22 9 (.iload_n 2) 1 := by decide +kernel
theorem d9_10 : dk cJ43_22 10 (.iconst 0) 1 := by decide +kernel
theorem d9_11 : dk cJ43_22 11 (.invokestatic 92) 3 := by decide +kernel
theorem d11_0 : dk jdk_29_method_65_code 0 (.iload_n 0) 1 := by decide +kernel
theorem d11_1 : dk jdk_29_method_65_code 1 (.iload_n 1) 1 := by decide +kernel
theorem d11_2 : dk jdk_29_method_65_code 2 (.if_icmp .lt 7) 3 := by decide +kernel
theorem d11_5 : dk jdk_29_method_65_code 5 (.iload_n 0) 1 := by decide +kernel
theorem d11_6 : dk jdk_29_method_65_code 6 (.goto 4) 3 := by decide +kernel
theorem d11_10 : dk jdk_29_method_65_code 10 .ireturn 1 := by decide +kernel
abbrev y11 : MethodName := ⟨"java/lang/Math", "max", "(II)I"⟩
def r11_1Q (Z : State) (p1:Int32) (h0 : Heap) (n0 : Nat) : QT := fun v h L => v = some (.int p1) ∧ Fr n0 L ∧ h = h0
theorem r11_1 (l : Launch) (Z : State) (a0 : Array Value) (hw : HW a0 Z) (ws : List Jvm.Cond) (p1:Int32) (h0 : Heap) (n0 : Nat) (O0 : Old Z n0 h0) (hc2 : ¬ (p1 < (0:Int32))) :
    MF l y11 jdk_29_method_65_code 2 (some .int) ws (rM 0 0 0 0) Z #[(.int p1), (.int (0:Int32))] h0 (r11_1Q Z p1 h0 n0) := by
  refine own_in (Jvm.Free.JP.mathPlain rfl (by decide +kernel)) #[iv p1, iv (0:Int32)] (fun _ => by first | (simp [entryFrame, mkF, argsToLocals, Value.category]; done) | rfl) ?_
  intro p e s m below meth c s₁ Bd hx hby hml hown hnm hZ e0 X0
  have N0 := Fr.nil n0
  refine fin (Q := r11_1Q Z p1 h0 n0) (rm := (rM 0 0 0 0)) Bd X0 e0 (some (.int p1)) nofun ⟨rfl, N0, rfl⟩ (by decide) (by decide) fun fs hr => ?_
  show St p e below s₁ m 0 #[iv p1, iv (0:Int32)] [] _
  refine iN X0 hx hby d11_0 rfl ?_
  refine iN X0 hx hby d11_1 rfl ?_
  refine XS.icmpNo X0.here hx rfl (hb hby d11_2) rfl (flt hc2).1 ?_
  refine iN X0 hx hby d11_5 rfl ?_
  refine XS.goto X0.here hx rfl (pc0 := 6) (pc' := 10) rfl (hb hby d11_6) (by decide) (by decide) ?_
  exact retI X0 hx Bd.returns (hb hby d11_10) hr
theorem pd14 : parseMethodDescriptor "(II)I" = some ⟨[.int, .int], some .int⟩ := by decide +kernel
theorem d9_14 : dk cJ43_22 14 (.istore_n 2) 1 := by decide +kernel
theorem d9_15 : dk cJ43_22 15 (.iload_n 3) 1 := by decide +kernel
theorem d9_16 : dk cJ43_22 16 (.aload_n 0) 1 := by decide +kernel
theorem d9_17 : dk cJ43_22 17 .arraylength 1 := by decide +kernel
theorem d9_18 : dk cJ43_22 18 (.invokestatic 38) 3 := by decide +kernel
theorem d12_0 : dk cJ29_69 0 (.iload_n 0) 1 := by decide +kernel
theorem d12_1 : dk cJ29_69 1 (.iload_n 1) 1 := by decide +kernel
theorem d12_2 : dk cJ29_69 2 (.if_icmp .gt 7) 3 := by decide +kernel
theorem d12_5 : dk cJ29_69 5 (.iload_n 0) 1 := by decide +kernel
theorem d12_6 : dk cJ29_69 6 (.goto 4) 3 := by decide +kernel
theorem d12_10 : dk cJ29_69 10 .ireturn 1 := by decide +kernel
abbrev y12 : MethodName := ⟨"java/lang/Math", "min", "(II)I"⟩
def r12_1Q (Z : State) (c1 : List Int32) (h0 : Heap) (n0 : Nat) : QT := fun v h L => v = some (.int (own_tn c1)) ∧ Fr n0 L ∧ h = h0
theorem r12_1 (l : Launch) (Z : State) (a0 : Array Value) (hw : HW a0 Z) (ws : List Jvm.Cond) (c1 : List Int32) (h0 : Heap) (n0 : Nat) (O0 : Old Z n0 h0) (hc2 : ¬ ((own_tn c1) < (own_tn c1))) :
    MF l y12 cJ29_69 2 (some .int) ws (rM 0 0 0 0) Z #[(.int (own_tn c1)), (.int (own_tn c1))] h0 (r12_1Q Z c1 h0 n0) := by
  refine own_in (Jvm.Free.JP.mathPlain rfl (by decide +kernel)) #[iv (own_tn c1), iv (own_tn c1)] (fun _ => by first | (simp [entryFrame, mkF, argsToLocals, Value.category]; done) | rfl) ?_
  intro p e s m below meth c s₁ Bd hx hby hml hown hnm hZ e0 X0
  have N0 := Fr.nil n0
  refine fin (Q := r12_1Q Z c1 h0 n0) (rm := (rM 0 0 0 0)) Bd X0 e0 (some (.int (own_tn c1))) nofun ⟨rfl, N0, rfl⟩ (by decide) (by decide) fun fs hr => ?_
  show St p e below s₁ m 0 #[iv (own_tn c1), iv (own_tn c1)] [] _
  refine iN X0 hx hby d12_0 rfl ?_
  refine iN X0 hx hby d12_1 rfl ?_
  refine XS.icmpNo X0.here hx rfl (hb hby d12_2) rfl (flt hc2).2.2.1 ?_
  refine iN X0 hx hby d12_5 rfl ?_
  refine XS.goto X0.here hx rfl (pc0 := 6) (pc' := 10) rfl (hb hby d12_6) (by decide) (by decide) ?_
  exact retI X0 hx Bd.returns (hb hby d12_10) hr
theorem d9_21 : dk cJ43_22 21 (.istore_n 3) 1 := by decide +kernel
theorem d9_22 : dk cJ43_22 22 (.iload_n 2) 1 := by decide +kernel
theorem d9_23 : dk cJ43_22 23 (.iload_n 3) 1 := by decide +kernel
theorem d9_24 : dk cJ43_22 24 (.if_icmp .lt 5) 3 := by decide +kernel
theorem d9_29 : dk cJ43_22 29 (.aload_n 0) 1 := by decide +kernel
theorem d9_30 : dk cJ43_22 30 (.iload_n 1) 1 := by decide +kernel
theorem d9_31 : dk cJ43_22 31 (.iload_n 2) 1 := by decide +kernel
theorem d9_32 : dk cJ43_22 32 (.iload_n 3) 1 := by decide +kernel
theorem d9_33 : dk cJ43_22 33 (.invokestatic 95) 3 := by decide +kernel
theorem d13_0 : dk cJ43_23 0 (.iload_n 1) 1 := by decide +kernel
theorem d13_1 : dk cJ43_23 1 .i2b 1 := by decide +kernel
theorem d13_2 : dk cJ43_23 2 (.istore 4) 2 := by decide +kernel
theorem d13_4 : dk cJ43_23 4 (.iload_n 2) 1 := by decide +kernel
theorem d13_5 : dk cJ43_23 5 (.istore 5) 2 := by decide +kernel
theorem d13_7 : dk cJ43_23 7 (.iload 5) 2 := by decide +kernel
theorem d13_9 : dk cJ43_23 9 (.iload_n 3) 1 := by decide +kernel
theorem d13_10 : dk cJ43_23 10 (.if_icmp .ge 21) 3 := by decide +kernel
theorem d13_13 : dk cJ43_23 13 (.aload_n 0) 1 := by decide +kernel
theorem d13_14 : dk cJ43_23 14 (.iload 5) 2 := by decide +kernel
theorem d13_16 : dk cJ43_23 16 .baload 1 := by decide +kernel
theorem d13_17 : dk cJ43_23 17 (.iload 4) 2 := by decide +kernel
theorem d13_19 : dk cJ43_23 19 (.if_icmp .ne 6) 3 := by decide +kernel
theorem d13_22 : dk cJ43_23 22 (.iload 5) 2 := by decide +kernel
theorem d13_24 : dk cJ43_23 24 .ireturn 1 := by decide +kernel
theorem d13_25 : dk cJ43_23 25 (.iinc 5 1) 3 := by decide +kernel
theorem d13_28 : dk cJ43_23 28 (.goto (-21)) 3 := by decide +kernel
theorem d13_31 : dk cJ43_23 31 (.iconst (-1)) 1 := by decide +kernel
theorem d13_32 : dk cJ43_23 32 .ireturn 1 := by decide +kernel
abbrev y13 : MethodName := ⟨"java/lang/StringLatin1", "indexOfChar", "([BIII)I"⟩
theorem own_ixc (l : Launch) (Z : State) (a0 : Array Value) (hw : HW a0 Z) (ws : List Jvm.Cond) (a1 : Addr) (k1 : ClassId) (c1 : List Int32) (p1:Int32) (h0 : Heap) (n0 : Nat) (O0 : Old Z n0 h0) (H : Arv Z h0 a1 k1 .byte (own_tn c1) (own_tb c1) (.int (0:Int32))) (G : own_GT c1) (hp : own_po c1 p1) :
    MF l y13 cJ43_23 6 (some .int) ws ({ frames := 0, cells := 0, slots := 0, locals := 0 } : Room) Z #[(.ref a1), (.int (44:Int32)), (.int p1), (.int (own_tn c1))] h0 (own_iQ (own_ix c1 p1) h0 n0) := by
  refine own_in (pq pn3) #[rv a1, iv (44:Int32), iv p1, iv (own_tn c1), un, un] (fun _ => by first | (simp [entryFrame, mkF, argsToLocals, Value.category]; done) | rfl) ?_
  intro p e s m below meth c s₁ Bd hx hby hml hown hnm hZ e0 X0
  obtain ⟨cl, Ar, _, S, _, Hh, _⟩ := id H
  have hl6 : c1.length ≤ 6 := G.1
  have nL := own_nn (k := c1.length) (by omega)
  obtain ⟨fs, hr, hrun, hended, hW, hsame⟩ := X0.leave (v := some (.int (own_ix c1 p1))) (fun h => by rw [Bd.returns] at h; cases h)
  have loop : ∀ (n : Nat) (i:Int32), ¬ i < 0 → i.toNatClampNeg + n = c1.length → own_ix c1 i = own_ix c1 p1 → St p e below s₁ m 7 #[rv a1, iv (44:Int32), iv p1, iv (own_tn c1), iv (44:Int32), iv i] [] (s₁.setFrames fs) := by
    intro n
    induction n with
    | zero =>
      intro i hi hn hx1
      have ei : ¬ i < own_tn c1 := by rw [Int32.lt_iff_toInt_lt, own_ti hi, own_tn, nL.2.2]; omega
      have er : own_ix c1 p1 = (-1:Int32) := by rw [← hx1]; exact own_ixE (by omega)
      rw [er] at hr
      refine iL X0 hx hby d13_7 rfl ?_
      refine iN X0 hx hby d13_9 rfl ?_
      show St p e below s₁ m 10 #[rv a1, iv (44:Int32), iv p1, iv (own_tn c1), iv (44:Int32), iv i] [(.int (own_tn c1)), (.int i)] _
      refine XS.icmpYes X0.here hx rfl (pc0 := 10) (pc' := 31) rfl (hb hby d13_10) rfl (flt ei).2.1 (by decide) (by decide) ?_
      show St p e below s₁ m 31 #[rv a1, iv (44:Int32), iv p1, iv (own_tn c1), iv (44:Int32), iv i] [] _
      refine iC X0 hx hby d13_31 ?_
      show St p e below s₁ m 32 #[rv a1, iv (44:Int32), iv p1, iv (own_tn c1), iv (44:Int32), iv i] [(.int (-1:Int32))] _
      exact retI X0 hx Bd.returns (hb hby d13_32) hr
    | succ n ih =>
      intro i hi hn hx1
      have ei : i < own_tn c1 := by rw [Int32.lt_iff_toInt_lt, own_ti hi, own_tn, nL.2.2]; omega
      have hin : ¬ (i < 0 ∨ cl.slots.size ≤ i.toNatClampNeg) := inb_of S ⟨hi, ei⟩
      refine iL X0 hx hby d13_7 rfl ?_
      refine iN X0 hx hby d13_9 rfl ?_
      show St p e below s₁ m 10 #[rv a1, iv (44:Int32), iv p1, iv (own_tn c1), iv (44:Int32), iv i] [(.int (own_tn c1)), (.int i)] _
      refine XS.icmpNo X0.here hx rfl (hb hby d13_10) rfl (tlt ei).2.1 ?_
      show St p e below s₁ m 13 #[rv a1, iv (44:Int32), iv p1, iv (own_tn c1), iv (44:Int32), iv i] [] _
      refine aN X0 hx hby d13_13 rfl rfl ?_
      refine iL X0 hx hby d13_14 rfl ?_
      show St p e below s₁ m 16 #[rv a1, iv (44:Int32), iv p1, iv (own_tn c1), iv (44:Int32), iv i] [(.int i), (.ref a1)] _
      refine X0.baloadBytes hx (j := i) (v := (.int ((c1.getD i.toNatClampNeg 0).toInt8.toInt32))) (by rw [e0]; exact Ar.1) (State.isArrayOf_alike hZ.alike Ar.2.1) Ar.2.2 hin (Has.at Hh hin (own_tbg _ _)) (g := (mkF m 16 #[rv a1, iv (44:Int32), iv p1, iv (own_tn c1), iv (44:Int32), iv i] [(.int i), (.ref a1)])) rfl rfl (hb hby d13_16) _ ?_
      show St p e below s₁ m 17 #[rv a1, iv (44:Int32), iv p1, iv (own_tn c1), iv (44:Int32), iv i] [(.int ((c1.getD i.toNatClampNeg 0).toInt8.toInt32))] _
      refine iL X0 hx hby d13_17 rfl ?_
      show St p e below s₁ m 19 #[rv a1, iv (44:Int32), iv p1, iv (own_tn c1), iv (44:Int32), iv i] [(.int (44:Int32)), (.int ((c1.getD i.toNatClampNeg 0).toInt8.toInt32))] _
      by_cases h44 : c1.getD i.toNatClampNeg 0 = 44
      · have eb : (c1.getD i.toNatClampNeg 0).toInt8.toInt32 = (44:Int32) := by rw [h44]; decide
        have er : own_ix c1 p1 = i := by rw [← hx1]; exact own_ixH hi (by omega) h44
        rw [er] at hr
        refine XS.icmpNo X0.here hx rfl (hb hby d13_19) rfl (teq eb).2 ?_
        show St p e below s₁ m 22 #[rv a1, iv (44:Int32), iv p1, iv (own_tn c1), iv (44:Int32), iv i] [] _
        refine iL X0 hx hby d13_22 rfl ?_
        show St p e below s₁ m 24 #[rv a1, iv (44:Int32), iv p1, iv (own_tn c1), iv (44:Int32), iv i] [(.int i)] _
        exact retI X0 hx Bd.returns (hb hby d13_24) hr
      · have eb : ¬ ((c1.getD i.toNatClampNeg 0).toInt8.toInt32 = (44:Int32)) := own_b44 (own_gtd G _) h44
        refine XS.icmpYes X0.here hx rfl (pc0 := 19) (pc' := 25) rfl (hb hby d13_19) rfl (feq eb).2 (by decide) (by decide) ?_
        show St p e below s₁ m 25 #[rv a1, iv (44:Int32), iv p1, iv (own_tn c1), iv (44:Int32), iv i] [] _
        refine XS.iinc X0.here hx rfl (hb hby d13_25) rfl (l' := #[rv a1, iv (44:Int32), iv p1, iv (own_tn c1), iv (44:Int32), iv (i + (1:Int32))]) rfl ?_
        show St p e below s₁ m 28 #[rv a1, iv (44:Int32), iv p1, iv (own_tn c1), iv (44:Int32), iv (i + (1:Int32))] [] _
        refine XS.goto X0.here hx rfl (pc0 := 28) (pc' := 7) rfl (hb hby d13_28) (by decide) (by decide) ?_
        have nx := own_inc hi (by omega : i.toNatClampNeg < 6)
        have nx2 := nx.2
        exact ih (i + 1) nx.1 (by omega) (by rw [own_ixT hi (by omega) (by omega) h44]; exact hx1)
  refine ⟨_, _, ?_, hrun, hended, _, _, rfl, ?_, ⟨_, rfl⟩, hW, hsame.mono (by decide) (by decide)⟩
  · show St p e below s₁ m 0 #[rv a1, iv (44:Int32), iv p1, iv (own_tn c1), un, un] [] _
    refine iN X0 hx hby d13_0 rfl ?_
    refine XS.i2b X0.here hx rfl (hb hby d13_1) rfl ?_
    show St p e below s₁ m 2 #[rv a1, iv (44:Int32), iv p1, iv (own_tn c1), un, un] [(.int (44:Int32))] _
    refine XS.istore X0.here hx rfl (hb hby d13_2) rfl (l' := #[rv a1, iv (44:Int32), iv p1, iv (own_tn c1), iv (44:Int32), un]) rfl ?_
    show St p e below s₁ m 4 #[rv a1, iv (44:Int32), iv p1, iv (own_tn c1), iv (44:Int32), un] [] _
    refine iN X0 hx hby d13_4 rfl ?_
    show St p e below s₁ m 5 #[rv a1, iv (44:Int32), iv p1, iv (own_tn c1), iv (44:Int32), un] [(.int p1)] _
    refine XS.istore X0.here hx rfl (hb hby d13_5) rfl (l' := #[rv a1, iv (44:Int32), iv p1, iv (own_tn c1), iv (44:Int32), iv p1]) rfl ?_
    exact loop (c1.length - p1.toNatClampNeg) p1 hp.1 (by have := hp.2; omega) rfl
  · exact ⟨rfl, Fr.nil n0, e0⟩
theorem pd9 : parseMethodDescriptor "([BIII)I" = some ⟨[(.array .byte), .int, .int, .int], some .int⟩ := by decide +kernel
theorem d9_36 : dk cJ43_22 36 .ireturn 1 := by decide +kernel
abbrev y9 : MethodName := ⟨"java/lang/StringLatin1", "indexOf", "([BIII)I"⟩
def r9_1Q (Z : State) (a1 : Addr) (p2:Int32) (c3 : List Int32) (k8 : ClassId) (h0 : Heap) (n0 : Nat) : QT := fun v h L => v = some (.int (own_ix c3 p2)) ∧ Fr n0 L ∧ h = h0
theorem r9_1 (l : Launch) (Z : State) (a0 : Array Value) (hw : HW a0 Z) (ws : List Jvm.Cond) (a1 : Addr) (p2:Int32) (c3 : List Int32) (k8 : ClassId) (h0 : Heap) (n0 : Nat) (O0 : Old Z n0 h0) (hc5 : ¬ (p2 < (0:Int32))) (H9 : Arv Z h0 a1 k8 .byte (own_tn c3) (own_tb c3) (.int (0:Int32))) (hc10 : ¬ ((own_tn c3) < (own_tn c3))) (hc12 : p2 < (own_tn c3)) (H13 : own_GT c3) (hc14 : own_po c3 p2) :
    MF l y9 cJ43_22 4 (some .int) ws (rM 1 0 0 17) Z #[(.ref a1), (.int (44:Int32)), (.int p2), (.int (own_tn c3))] h0 (r9_1Q Z a1 p2 c3 k8 h0 n0) := by
  refine own_in (pq pn3) #[rv a1, iv (44:Int32), iv p2, iv (own_tn c3)] (fun _ => by first | (simp [entryFrame, mkF, argsToLocals, Value.category]; done) | rfl) ?_
  intro p e s m below meth c s₁ Bd hx hby hml hown hnm hZ e0 X0
  have N0 := Fr.nil n0
  obtain ⟨_, _, _, X4, hQ4, st4⟩ := cS X0 hx hZ hw hown (y := y10) 55 rfl 56 rfl 53 rfl 57 rfl (by decide) (W := 0) (r10_1 l Z a0 hw [] h0 n0 O0) (by decide) (by decide) e0 (g := (mkF m 1 #[rv a1, iv (44:Int32), iv p2, iv (own_tn c3)] [(.int (44:Int32))])) rfl (by rw [hml]; rfl) (argsL := [(.int (44:Int32))]) (rest := []) (lenOf pd18 rfl) rfl wf (hb hby d9_1) rfl (by decide) (by decide)
  obtain ⟨rfl, N4q, e4⟩ := hQ4
  have N4 := Fr.app N0 N4q
  obtain ⟨_, _, _, X6, hQ6, st6⟩ := cS X4 hx hZ hw hown (y := y11) 58 rfl 59 rfl 60 rfl 61 rfl (by decide) (W := 0) (r11_1 l Z a0 hw [] p2 h0 n0 O0 hc5) (by decide) (by decide) e4 (g := (mkF m 11 #[rv a1, iv (44:Int32), iv p2, iv (own_tn c3)] [(.int (0:Int32)), (.int p2)])) rfl (by rw [hml]; rfl) (argsL := [(.int p2), (.int (0:Int32))]) (rest := []) (lenOf pd14 rfl) rfl wf (hb hby d9_11) rfl (by decide) (by decide)
  obtain ⟨rfl, N6q, e6⟩ := hQ6
  have N6 := Fr.app N4 N6q
  obtain ⟨_, Ar7, _, S7, M7, _, _⟩ := id H9
  obtain ⟨_, _, _, X11, hQ11, st11⟩ := cS X6 hx hZ hw hown (y := y12) 62 rfl 63 rfl 60 rfl 64 rfl (by decide) (W := 0) (r12_1 l Z a0 hw [] c3 h0 n0 O0 hc10) (by decide) (by decide) e6 (g := (mkF m 18 #[rv a1, iv (44:Int32), iv p2, iv (own_tn c3)] [(.int (own_tn c3)), (.int (own_tn c3))])) rfl (by rw [hml]; rfl) (argsL := [(.int (own_tn c3)), (.int (own_tn c3))]) (rest := []) (lenOf pd14 rfl) rfl wf (hb hby d9_18) rfl (by decide) (by decide)
  obtain ⟨rfl, N11q, e11⟩ := hQ11
  have N11 := Fr.app N6 N11q
  obtain ⟨_, _, _, X15, hQ15, st15⟩ := cS X11 hx hZ hw hown (y := y13) 104 rfl 105 rfl 53 rfl 106 rfl (by decide) (W := 0) (own_ixc l Z a0 hw [] a1 k8 c3 p2 h0 n0 O0 H9 H13 hc14) (by decide) (by decide) e11 (g := (mkF m 33 #[rv a1, iv (44:Int32), iv p2, iv (own_tn c3)] [(.int (own_tn c3)), (.int p2), (.int (44:Int32)), (.ref a1)])) rfl (by rw [hml]; rfl) (argsL := [(.ref a1), (.int (44:Int32)), (.int p2), (.int (own_tn c3))]) (rest := []) (lenOf pd9 rfl) rfl wf (hb hby d9_33) rfl (by decide) (by decide)
  obtain ⟨rfl, N15q, e15⟩ := hQ15
  have N15 := Fr.app N11 N15q
  refine fin (Q := r9_1Q Z a1 p2 c3 k8 h0 n0) (rm := (rM 1 0 0 17)) Bd X15 e15 (some (.int (own_ix c3 p2))) nofun ⟨rfl, N15, rfl⟩ (by decide) (by decide) fun fs hr => ?_
  show St p e below s₁ m 0 #[rv a1, iv (44:Int32), iv p2, iv (own_tn c3)] [] _
  refine iN X0 hx hby d9_0 rfl ?_
  refine st4 _ ?_
  refine XS.ifYes X4.here hx rfl (pc0 := 4) (pc' := 9) rfl (hb hby d9_4) rfl ((if0 _ _).trans (feq (by decide : ¬ ((1:Int32) = (0:Int32)))).2) (by decide) (by decide) ?_
  refine iN X4 hx hby d9_9 rfl ?_
  refine iC X4 hx hby d9_10 ?_
  refine st6 _ ?_
  refine XS.istoreN X6.here hx rfl (hb hby d9_14) rfl (l' := #[rv a1, iv (44:Int32), iv p2, iv (own_tn c3)]) rfl ?_
  refine iN X6 hx hby d9_15 rfl ?_
  refine aN X6 hx hby d9_16 rfl rfl ?_
  refine X6.arraylength hx (by rw [e6]; exact Ar7.1) (State.isArrayOf_alike hZ.alike Ar7.2.1) (g := (mkF m 17 #[rv a1, iv (44:Int32), iv p2, iv (own_tn c3)] [(.ref a1), (.int (own_tn c3))])) rfl rfl (hb hby d9_17) _ ?_
  rw [len_of S7 M7]
  refine st11 _ ?_
  refine XS.istoreN X11.here hx rfl (hb hby d9_21) rfl (l' := #[rv a1, iv (44:Int32), iv p2, iv (own_tn c3)]) rfl ?_
  refine iN X11 hx hby d9_22 rfl ?_
  refine iN X11 hx hby d9_23 rfl ?_
  refine XS.icmpYes X11.here hx rfl (pc0 := 24) (pc' := 29) rfl (hb hby d9_24) rfl (tlt hc12).1 (by decide) (by decide) ?_
  refine aN X11 hx hby d9_29 rfl rfl ?_
  refine iN X11 hx hby d9_30 rfl ?_
  refine iN X11 hx hby d9_31 rfl ?_
  refine iN X11 hx hby d9_32 rfl ?_
  refine st15 _ ?_
  exact retI X15 hx Bd.returns (hb hby d9_36) hr
theorem d6_20 : dk cJ42_80 20 (.goto 16) 3 := by decide +kernel
theorem d6_36 : dk cJ42_80 36 .ireturn 1 := by decide +kernel
theorem d9_27 : dk cJ43_22 27 (.iconst (-1)) 1 := by decide +kernel
theorem d9_28 : dk cJ43_22 28 .ireturn 1 := by decide +kernel
def r9_2Q (Z : State) (a1 : Addr) (p2:Int32) (c3 : List Int32) (k8 : ClassId) (h0 : Heap) (n0 : Nat) : QT := fun v h L => v = some (.int (-1:Int32)) ∧ Fr n0 L ∧ h = h0
theorem r9_2 (l : Launch) (Z : State) (a0 : Array Value) (hw : HW a0 Z) (ws : List Jvm.Cond) (a1 : Addr) (p2:Int32) (c3 : List Int32) (k8 : ClassId) (h0 : Heap) (n0 : Nat) (O0 : Old Z n0 h0) (hc5 : ¬ (p2 < (0:Int32))) (H9 : Arv Z h0 a1 k8 .byte (own_tn c3) (own_tb c3) (.int (0:Int32))) (hc10 : ¬ ((own_tn c3) < (own_tn c3))) (hc12 : ¬ (p2 < (own_tn c3))) :
    MF l y9 cJ43_22 4 (some .int) ws (rM 1 0 0 13) Z #[(.ref a1), (.int (44:Int32)), (.int p2), (.int (own_tn c3))] h0 (r9_2Q Z a1 p2 c3 k8 h0 n0) := by
  refine own_in (pq pn3) #[rv a1, iv (44:Int32), iv p2, iv (own_tn c3)] (fun _ => by first | (simp [entryFrame, mkF, argsToLocals, Value.category]; done) | rfl) ?_
  intro p e s m below meth c s₁ Bd hx hby hml hown hnm hZ e0 X0
  have N0 := Fr.nil n0
  obtain ⟨_, _, _, X4, hQ4, st4⟩ := cS X0 hx hZ hw hown (y := y10) 55 rfl 56 rfl 53 rfl 57 rfl (by decide) (W := 0) (r10_1 l Z a0 hw [] h0 n0 O0) (by decide) (by decide) e0 (g := (mkF m 1 #[rv a1, iv (44:Int32), iv p2, iv (own_tn c3)] [(.int (44:Int32))])) rfl (by rw [hml]; rfl) (argsL := [(.int (44:Int32))]) (rest := []) (lenOf pd18 rfl) rfl wf (hb hby d9_1) rfl (by decide) (by decide)
  obtain ⟨rfl, N4q, e4⟩ := hQ4
  have N4 := Fr.app N0 N4q
  obtain ⟨_, _, _, X6, hQ6, st6⟩ := cS X4 hx hZ hw hown (y := y11) 58 rfl 59 rfl 60 rfl 61 rfl (by decide) (W := 0) (r11_1 l Z a0 hw [] p2 h0 n0 O0 hc5) (by decide) (by decide) e4 (g := (mkF m 11 #[rv a1, iv (44:Int32), iv p2, iv (own_tn c3)] [(.int (0:Int32)), (.int p2)])) rfl (by rw [hml]; rfl) (argsL := [(.int p2), (.int (0:Int32))]) (rest := []) (lenOf pd14 rfl) rfl wf (hb hby d9_11) rfl (by decide) (by decide)
  obtain ⟨rfl, N6q, e6⟩ := hQ6
  have N6 := Fr.app N4 N6q
  obtain ⟨_, Ar7, _, S7, M7, _, _⟩ := id H9
  obtain ⟨_, _, _, X11, hQ11, st11⟩ := cS X6 hx hZ hw hown (y := y12) 62 rfl 63 rfl 60 rfl 64 rfl (by decide) (W := 0) (r12_1 l Z a0 hw [] c3 h0 n0 O0 hc10) (by decide) (by decide) e6 (g := (mkF m 18 #[rv a1, iv (44:Int32), iv p2, iv (own_tn c3)] [(.int (own_tn c3)), (.int (own_tn c3))])) rfl (by rw [hml]; rfl) (argsL := [(.int (own_tn c3)), (.int (own_tn c3))]) (rest := []) (lenOf pd14 rfl) rfl wf (hb hby d9_18) rfl (by decide) (by decide)
  obtain ⟨rfl, N11q, e11⟩ := hQ11
  have N11 := Fr.app N6 N11q
  refine fin (Q := r9_2Q Z a1 p2 c3 k8 h0 n0) (rm := (rM 1 0 0 13)) Bd X11 e11 (some (.int (-1:Int32))) nofun ⟨rfl, N11, rfl⟩ (by decide) (by decide) fun fs hr => ?_
  show St p e below s₁ m 0 #[rv a1, iv (44:Int32), iv p2, iv (own_tn c3)] [] _
  refine iN X0 hx hby d9_0 rfl ?_
  refine st4 _ ?_
  refine XS.ifYes X4.here hx rfl (pc0 := 4) (pc' := 9) rfl (hb hby d9_4) rfl ((if0 _ _).trans (feq (by decide : ¬ ((1:Int32) = (0:Int32)))).2) (by decide) (by decide) ?_
  refine iN X4 hx hby d9_9 rfl ?_
  refine iC X4 hx hby d9_10 ?_
  refine st6 _ ?_
  refine XS.istoreN X6.here hx rfl (hb hby d9_14) rfl (l' := #[rv a1, iv (44:Int32), iv p2, iv (own_tn c3)]) rfl ?_
  refine iN X6 hx hby d9_15 rfl ?_
  refine aN X6 hx hby d9_16 rfl rfl ?_
  refine X6.arraylength hx (by rw [e6]; exact Ar7.1) (State.isArrayOf_alike hZ.alike Ar7.2.1) (g := (mkF m 17 #[rv a1, iv (44:Int32), iv p2, iv (own_tn c3)] [(.ref a1), (.int (own_tn c3))])) rfl rfl (hb hby d9_17) _ ?_
  rw [len_of S7 M7]
  refine st11 _ ?_
  refine XS.istoreN X11.here hx rfl (hb hby d9_21) rfl (l' := #[rv a1, iv (44:Int32), iv p2, iv (own_tn c3)]) rfl ?_
  refine iN X11 hx hby d9_22 rfl ?_
  refine iN X11 hx hby d9_23 rfl ?_
  refine XS.icmpNo X11.here hx rfl (hb hby d9_24) rfl (flt hc12).1 ?_
  refine iC X11 hx hby d9_27 ?_
  exact retI X11 hx Bd.returns (hb hby d9_28) hr
abbrev y6 : MethodName := ⟨"java/lang/String", "indexOf", "(II)I"⟩
def r6_1Q (Z : State) (a1 : Addr) (p2 p4:Int32) (a9 : Addr) (k12 : ClassId) (c13 : List Int32) (h0 : Heap) (n0 : Nat) : QT := fun v h L => v = some (.int (own_ix c13 p2)) ∧ Fr n0 L ∧ h = h0
theorem r6_1 (l : Launch) (Z : State) (a0 : Array Value) (hw : HW a0 Z) (ws : List Jvm.Cond) (a1 : Addr) (p2 p4:Int32) (a9 : Addr) (k12 : ClassId) (c13 : List Int32) (h0 : Heap) (n0 : Nat) (O0 : Old Z n0 h0) (H3 : xE1 Z h0 a1) (H5 : Sta Z Z.heap "java/lang/String" "COMPACT_STRINGS" "Z" (.int p4)) (hc6 : ¬ (p4 = (0:Int32))) (H7 : xF2 Z h0 a1 (.int (0:Int32))) (H10 : xF3 Z h0 a1 (.ref a9)) (H14 : Arv Z h0 a9 k12 .byte (own_tn c13) (own_tb c13) (.int (0:Int32))) (H15 : own_GT c13) (hc17 : ¬ (p2 < (0:Int32))) (hc18 : ¬ ((own_tn c13) < (own_tn c13))) (hc19 : p2 < (own_tn c13)) (hc20 : own_po c13 p2) :
    MF l y6 cJ42_80 3 (some .int) ws (rM 2 0 0 32) Z #[(.ref a1), (.int (44:Int32)), (.int p2)] h0 (r6_1Q Z a1 p2 p4 a9 k12 c13 h0 n0) := by
  refine own_in (pq pn5) #[rv a1, iv (44:Int32), iv p2] (fun _ => by first | (simp [entryFrame, mkF, argsToLocals, Value.category]; done) | rfl) ?_
  intro p e s m below meth c s₁ Bd hx hby hml hown hnm hZ e0 X0
  have N0 := Fr.nil n0
  obtain ⟨_, _, _, X8, hQ8, st8⟩ := cV X0 hx hZ hw hown (y := y7) 33 rfl 34 rfl 36 rfl 35 rfl 37 rfl 9 rfl (by decide) (W := 0) (r7_1 l Z a0 hw [] a1 p4 h0 n0 O0 H5 hc6 H7) (by decide) (by decide) H3 e0 (g := (mkF m 1 #[rv a1, iv (44:Int32), iv p2] [(.ref a1)])) rfl (by rw [hml]; rfl) (argsL := []) (rest := []) (lenOf pd22 rfl) rfl wf (hb hby d6_1) rfl (by decide) (by decide)
  obtain ⟨rfl, N8q, e8⟩ := hQ8
  have N8 := Fr.app N0 N8q
  obtain ⟨_, X11, e11, st11⟩ := gF X8 hx hZ hown (ow hw 40 rfl) e8 H10 (g := (mkF m 8 #[rv a1, iv (44:Int32), iv p2] [(.ref a1)])) rfl rfl (hb hby d6_8)
  obtain ⟨_, _, q16a, _, q16c⟩ := isOf hZ e11 H3
  obtain ⟨_, _, _, X16, hQ16, st16⟩ := fl X11 (X11.virtualBack hx (y := y8) (z := y8) hown (mo hZ hw 41 rfl) (mo hZ hw 42 rfl) (notFace_of_selects (args := #[]) (mo hZ hw 44 rfl)) (mo hZ hw 44 rfl) (mo hZ hw 43 rfl) (by decide) (own_lenB (W := 3) n0 hZ hw (ow hw 10 rfl) H3 H10 H7 H14 H15 (H5.ext O0.2) hc6 (by decide) (by decide)) q16a q16c (g := (mkF m 14 #[rv a1, iv (44:Int32), iv p2] [(.ref a1), (.int p2), (.int (44:Int32)), (.ref a9)])) rfl (by rw [hml]; rfl) (Steps.refl _) (argsL := []) (rest := [(.int p2), (.int (44:Int32)), (.ref a9)]) (lenOf pd23 rfl) rfl wf (hb hby d6_14) (fun _ _ => ⟨rfl, e11, (by decide : 0 + 0 ≤ _), (by decide : 0 + 0 ≤ _)⟩))
  obtain ⟨rfl, N16q, e16⟩ := hQ16
  have N16 := Fr.app N8 N16q
  obtain ⟨_, _, _, X21, hQ21, st21⟩ := cS X16 hx hZ hw hown (y := y9) 51 rfl 52 rfl 53 rfl 54 rfl (by decide) (W := 0) (r9_1 l Z a0 hw [] a9 p2 c13 k12 h0 n0 O0 hc17 H14 hc18 hc19 H15 hc20) (by decide) (by decide) e16 (g := (mkF m 17 #[rv a1, iv (44:Int32), iv p2] [(.int (own_tn c13)), (.int p2), (.int (44:Int32)), (.ref a9)])) rfl (by rw [hml]; rfl) (argsL := [(.ref a9), (.int (44:Int32)), (.int p2), (.int (own_tn c13))]) (rest := []) (lenOf pd9 rfl) rfl wf (hb hby d6_17) rfl (by decide) (by decide)
  obtain ⟨rfl, N21q, e21⟩ := hQ21
  have N21 := Fr.app N16 N21q
  refine fin (Q := r6_1Q Z a1 p2 p4 a9 k12 c13 h0 n0) (rm := (rM 2 0 0 32)) Bd X21 e21 (some (.int (own_ix c13 p2))) nofun ⟨rfl, N21, rfl⟩ (by decide) (by decide) fun fs hr => ?_
  show St p e below s₁ m 0 #[rv a1, iv (44:Int32), iv p2] [] _
  refine aN X0 hx hby d6_0 rfl rfl ?_
  refine st8.trans ?_
  refine XS.ifNo X8.here hx rfl (hb hby d6_4) rfl ((if0 _ _).trans (feq (by decide : ¬ ((1:Int32) = (0:Int32)))).1) ?_
  refine aN X8 hx hby d6_7 rfl rfl ?_
  refine st11 _ ?_
  refine iN X11 hx hby d6_11 rfl ?_
  refine iN X11 hx hby d6_12 rfl ?_
  refine aN X11 hx hby d6_13 rfl rfl ?_
  refine st16.trans ?_
  refine st21 _ ?_
  refine XS.goto X21.here hx rfl (pc0 := 20) (pc' := 36) rfl (hb hby d6_20) (by decide) (by decide) ?_
  exact retI X21 hx Bd.returns (hb hby d6_36) hr
def r6_2Q (Z : State) (a1 : Addr) (p2 p4:Int32) (a9 : Addr) (k12 : ClassId) (c13 : List Int32) (h0 : Heap) (n0 : Nat) : QT := fun v h L => v = some (.int (-1:Int32)) ∧ Fr n0 L ∧ h = h0
theorem r6_2 (l : Launch) (Z : State) (a0 : Array Value) (hw : HW a0 Z) (ws : List Jvm.Cond) (a1 : Addr) (p2 p4:Int32) (a9 : Addr) (k12 : ClassId) (c13 : List Int32) (h0 : Heap) (n0 : Nat) (O0 : Old Z n0 h0) (H3 : xE1 Z h0 a1) (H5 : Sta Z Z.heap "java/lang/String" "COMPACT_STRINGS" "Z" (.int p4)) (hc6 : ¬ (p4 = (0:Int32))) (H7 : xF2 Z h0 a1 (.int (0:Int32))) (H10 : xF3 Z h0 a1 (.ref a9)) (H14 : Arv Z h0 a9 k12 .byte (own_tn c13) (own_tb c13) (.int (0:Int32))) (H15 : own_GT c13) (hc17 : ¬ (p2 < (0:Int32))) (hc18 : ¬ ((own_tn c13) < (own_tn c13))) (hc19 : ¬ (p2 < (own_tn c13))) :
    MF l y6 cJ42_80 3 (some .int) ws (rM 2 0 0 32) Z #[(.ref a1), (.int (44:Int32)), (.int p2)] h0 (r6_2Q Z a1 p2 p4 a9 k12 c13 h0 n0) := by
  refine own_in (pq pn5) #[rv a1, iv (44:Int32), iv p2] (fun _ => by first | (simp [entryFrame, mkF, argsToLocals, Value.category]; done) | rfl) ?_
  intro p e s m below meth c s₁ Bd hx hby hml hown hnm hZ e0 X0
  have N0 := Fr.nil n0
  obtain ⟨_, _, _, X8, hQ8, st8⟩ := cV X0 hx hZ hw hown (y := y7) 33 rfl 34 rfl 36 rfl 35 rfl 37 rfl 9 rfl (by decide) (W := 0) (r7_1 l Z a0 hw [] a1 p4 h0 n0 O0 H5 hc6 H7) (by decide) (by decide) H3 e0 (g := (mkF m 1 #[rv a1, iv (44:Int32), iv p2] [(.ref a1)])) rfl (by rw [hml]; rfl) (argsL := []) (rest := []) (lenOf pd22 rfl) rfl wf (hb hby d6_1) rfl (by decide) (by decide)
  obtain ⟨rfl, N8q, e8⟩ := hQ8
  have N8 := Fr.app N0 N8q
  obtain ⟨_, X11, e11, st11⟩ := gF X8 hx hZ hown (ow hw 40 rfl) e8 H10 (g := (mkF m 8 #[rv a1, iv (44:Int32), iv p2] [(.ref a1)])) rfl rfl (hb hby d6_8)
  obtain ⟨_, _, q16a, _, q16c⟩ := isOf hZ e11 H3
  obtain ⟨_, _, _, X16, hQ16, st16⟩ := fl X11 (X11.virtualBack hx (y := y8) (z := y8) hown (mo hZ hw 41 rfl) (mo hZ hw 42 rfl) (notFace_of_selects (args := #[]) (mo hZ hw 44 rfl)) (mo hZ hw 44 rfl) (mo hZ hw 43 rfl) (by decide) (own_lenB (W := 3) n0 hZ hw (ow hw 10 rfl) H3 H10 H7 H14 H15 (H5.ext O0.2) hc6 (by decide) (by decide)) q16a q16c (g := (mkF m 14 #[rv a1, iv (44:Int32), iv p2] [(.ref a1), (.int p2), (.int (44:Int32)), (.ref a9)])) rfl (by rw [hml]; rfl) (Steps.refl _) (argsL := []) (rest := [(.int p2), (.int (44:Int32)), (.ref a9)]) (lenOf pd23 rfl) rfl wf (hb hby d6_14) (fun _ _ => ⟨rfl, e11, (by decide : 0 + 0 ≤ _), (by decide : 0 + 0 ≤ _)⟩))
  obtain ⟨rfl, N16q, e16⟩ := hQ16
  have N16 := Fr.app N8 N16q
  obtain ⟨_, _, _, X20, hQ20, st20⟩ := cS X16 hx hZ hw hown (y := y9) 51 rfl 52 rfl 53 rfl 54 rfl (by decide) (W := 0) (r9_2 l Z a0 hw [] a9 p2 c13 k12 h0 n0 O0 hc17 H14 hc18 hc19) (by decide) (by decide) e16 (g := (mkF m 17 #[rv a1, iv (44:Int32), iv p2] [(.int (own_tn c13)), (.int p2), (.int (44:Int32)), (.ref a9)])) rfl (by rw [hml]; rfl) (argsL := [(.ref a9), (.int (44:Int32)), (.int p2), (.int (own_tn c13))]) (rest := []) (lenOf pd9 rfl) rfl wf (hb hby d6_17) rfl (by decide) (by decide)
  obtain ⟨rfl, N20q, e20⟩ := hQ20
  have N20 := Fr.app N16 N20q
  refine fin (Q := r6_2Q Z a1 p2 p4 a9 k12 c13 h0 n0) (rm := (rM 2 0 0 32)) Bd X20 e20 (some (.int (-1:Int32))) nofun ⟨rfl, N20, rfl⟩ (by decide) (by decide) fun fs hr => ?_
  show St p e below s₁ m 0 #[rv a1, iv (44:Int32), iv p2] [] _
  refine aN X0 hx hby d6_0 rfl rfl ?_
  refine st8.trans ?_
  refine XS.ifNo X8.here hx rfl (hb hby d6_4) rfl ((if0 _ _).trans (feq (by decide : ¬ ((1:Int32) = (0:Int32)))).1) ?_
  refine aN X8 hx hby d6_7 rfl rfl ?_
  refine st11 _ ?_
  refine iN X11 hx hby d6_11 rfl ?_
  refine iN X11 hx hby d6_12 rfl ?_
  refine aN X11 hx hby d6_13 rfl rfl ?_
  refine st16.trans ?_
  refine st20 _ ?_
  refine XS.goto X20.here hx rfl (pc0 := 20) (pc' := 36) rfl (hb hby d6_20) (by decide) (by decide) ?_
  exact retI X20 hx Bd.returns (hb hby d6_36) hr
theorem own_idx (l : Launch) (Z : State) (a0 : Array Value) (hw : HW a0 Z) (ws : List Jvm.Cond) (a1 b1 : Addr) (k1 : ClassId) (c1 : List Int32) (p1 z1:Int32) (h0 : Heap) (n0 : Nat) (O0 : Old Z n0 h0) (Q0 : xE1 Z h0 a1) (Q1 : Sta Z Z.heap "java/lang/String" "COMPACT_STRINGS" "Z" (.int z1)) (Q2 : ¬ (z1 = (0:Int32))) (Q3 : xF2 Z h0 a1 (.int (0:Int32))) (Q4 : xF3 Z h0 a1 (.ref b1)) (Q5 : Arv Z h0 b1 k1 .byte (own_tn c1) (own_tb c1) (.int (0:Int32))) (Q6 : own_GT c1) (Q7 : own_po c1 p1) :
    MF l y6 cJ42_80 3 (some .int) ws ({ frames := 2, cells := 0, slots := 0, locals := 32 } : Room) Z #[(.ref a1), (.int (44:Int32)), (.int p1)] h0 (own_iQ (own_ix c1 p1) h0 n0) := by
  have hl6 : c1.length ≤ 6 := Q6.1
  by_cases q : p1 < (own_tn c1)
  · exact r6_1 l Z a0 hw ws a1 p1 z1 b1 k1 c1 h0 n0 O0 Q0 Q1 Q2 Q3 Q4 Q5 Q6 Q7.1 (own_irr _) q Q7
  · rw [show own_ix c1 p1 = (-1:Int32) from own_ixE (own_pe hl6 Q7 q)]
    exact r6_2 l Z a0 hw ws a1 p1 z1 b1 k1 c1 h0 n0 O0 Q0 Q1 Q2 Q3 Q4 Q5 Q6 Q7.1 (own_irr _) q
theorem d5_6 : dk jdk_42_method_79_code 6 .ireturn 1 := by decide +kernel
abbrev y5 : MethodName := ⟨"java/lang/String", "indexOf", "(I)I"⟩
def r5_1Q (Z : State) (a1 a4 : Addr) (k6 : ClassId) (c7 : List Int32) (p9 p15:Int32) (h0 : Heap) (n0 : Nat) : QT := fun v h L => v = some (.int p15) ∧ Fr n0 L ∧ h = h0
theorem r5_1 (l : Launch) (Z : State) (a0 : Array Value) (hw : HW a0 Z) (ws : List Jvm.Cond) (a1 a4 : Addr) (k6 : ClassId) (c7 : List Int32) (p9 p15:Int32) (h0 : Heap) (n0 : Nat) (O0 : Old Z n0 h0) (H2 : xE1 Z h0 a1) (H3 : xF2 Z h0 a1 (.int (0:Int32))) (H5 : xF3 Z h0 a1 (.ref a4)) (H8 : Arv Z h0 a4 k6 .byte (own_tn c7) (own_tb c7) (.int (0:Int32))) (H10 : Sta Z Z.heap "java/lang/String" "COMPACT_STRINGS" "Z" (.int p9)) (hc11 : ¬ (p9 = (0:Int32))) (H12 : own_GT c7) (hc13 : own_po c7 (0:Int32)) (H16 : (own_ix c7 (0:Int32)) = p15) :
    MF l y5 jdk_42_method_79_code 2 (some .int) ws (rM 3 0 0 46) Z #[(.ref a1), (.int (44:Int32))] h0 (r5_1Q Z a1 a4 k6 c7 p9 p15 h0 n0) := by
  refine own_in (pq pn5) #[rv a1, iv (44:Int32)] (fun _ => by first | (simp [entryFrame, mkF, argsToLocals, Value.category]; done) | rfl) ?_
  intro p e s m below meth c s₁ Bd hx hby hml hown hnm hZ e0 X0
  have N0 := Fr.nil n0
  obtain ⟨T14, _, _, X14, hQ14, st14⟩ := cV X0 hx hZ hw hown (y := y6) 28 rfl 29 rfl 31 rfl 30 rfl 32 rfl 9 rfl (by decide) (W := 0) (own_idx l Z a0 hw [] a1 a4 k6 c7 (0:Int32) p9 h0 n0 O0 H2 H10 hc11 H3 H5 H8 H12 hc13) (by decide) (by decide) H2 e0 (g := (mkF m 3 #[rv a1, iv (44:Int32)] [(.int (0:Int32)), (.int (44:Int32)), (.ref a1)])) rfl (by rw [hml]; rfl) (argsL := [(.int (44:Int32)), (.int (0:Int32))]) (rest := []) (lenOf pd14 rfl) rfl wf (hb hby d5_3) rfl (by decide) (by decide)
  obtain ⟨rfl, N14q, e14⟩ := hQ14
  have N14 := Fr.app N0 N14q
  refine fin (Q := r5_1Q Z a1 a4 k6 c7 p9 p15 h0 n0) (rm := (rM 3 0 0 46)) Bd X14 e14 (some (.int p15)) nofun ⟨rfl, N14, rfl⟩ (by decide) (by decide) fun fs hr => ?_
  show St p e below s₁ m 0 #[rv a1, iv (44:Int32)] [] _
  refine aN X0 hx hby d5_0 rfl rfl ?_
  refine iN X0 hx hby d5_1 rfl ?_
  refine iC X0 hx hby d5_2 ?_
  refine st14.trans ?_
  show St p e below T14 m 6 #[rv a1, iv (44:Int32)] [(.int (own_ix c7 (0:Int32)))] _
  rw [H16]
  exact retI X14 hx Bd.returns (hb hby d5_6) hr
theorem pd19 : parseMethodDescriptor "(I)I" = some ⟨[.int], some .int⟩ := by decide +kernel
theorem d4_8 : dk cP22_6 8 (.istore_n 2) 1 := by decide +kernel
theorem d4_9 : dk cP22_6 9 (.iload_n 2) 1 := by decide +kernel
theorem d4_10 : dk cP22_6 10 (.ifCond .lt 19) 3 := by decide +kernel
theorem d4_29 : dk cP22_6 29 (.iload_n 1) 1 := by decide +kernel
theorem d4_30 : dk cP22_6 30 .ireturn 1 := by decide +kernel
abbrev y4 : MethodName := ⟨"com/example/novation/novation/Csv", "commas", "(Ljava/lang/String;)I"⟩
theorem pn1 : plainName "com/example/novation/novation/Csv" = true := by first | (simp [plainName, overriddenIn]; done) | decide +kernel
def r4_1Q (Z : State) (a1 a4 : Addr) (k6 : ClassId) (c7 : List Int32) (p9 p14:Int32) (h0 : Heap) (n0 : Nat) : QT := fun v h L => v = some (.int (0:Int32)) ∧ Fr n0 L ∧ h = h0
theorem r4_1 (l : Launch) (Z : State) (a0 : Array Value) (hw : HW a0 Z) (ws : List Jvm.Cond) (a1 a4 : Addr) (k6 : ClassId) (c7 : List Int32) (p9 p14:Int32) (h0 : Heap) (n0 : Nat) (O0 : Old Z n0 h0) (H2 : xE1 Z h0 a1) (H3 : xF2 Z h0 a1 (.int (0:Int32))) (H5 : xF3 Z h0 a1 (.ref a4)) (H8 : Arv Z h0 a4 k6 .byte (own_tn c7) (own_tb c7) (.int (0:Int32))) (H10 : Sta Z Z.heap "java/lang/String" "COMPACT_STRINGS" "Z" (.int p9)) (hc11 : ¬ (p9 = (0:Int32))) (H12 : own_GT c7) (hc13 : own_po c7 (0:Int32)) (H15 : (own_ix c7 (0:Int32)) = p14) (hc17 : p14 < (0:Int32)) :
    MF l y4 cP22_6 3 (some .int) ws (rM 4 0 0 59) Z #[(.ref a1)] h0 (r4_1Q Z a1 a4 k6 c7 p9 p14 h0 n0) := by
  refine own_in (pq pn1) #[rv a1, un, un] (fun _ => by first | (simp [entryFrame, mkF, argsToLocals, Value.category]; done) | rfl) ?_
  intro p e s m below meth c s₁ Bd hx hby hml hown hnm hZ e0 X0
  have N0 := Fr.nil n0
  obtain ⟨_, _, _, X16, hQ16, st16⟩ := cV X0 hx hZ hw hown (y := y5) 23 rfl 24 rfl 26 rfl 25 rfl 27 rfl 9 rfl (by decide) (W := 0) (r5_1 l Z a0 hw [] a1 a4 k6 c7 p9 p14 h0 n0 O0 H2 H3 H5 H8 H10 hc11 H12 hc13 H15) (by decide) (by decide) H2 e0 (g := (mkF m 5 #[rv a1, iv (0:Int32), un] [(.int (44:Int32)), (.ref a1)])) rfl (by rw [hml]; rfl) (argsL := [(.int (44:Int32))]) (rest := []) (lenOf pd19 rfl) rfl wf (hb hby d4_5) rfl (by decide) (by decide)
  obtain ⟨rfl, N16q, e16⟩ := hQ16
  have N16 := Fr.app N0 N16q
  refine fin (Q := r4_1Q Z a1 a4 k6 c7 p9 p14 h0 n0) (rm := (rM 4 0 0 59)) Bd X16 e16 (some (.int (0:Int32))) nofun ⟨rfl, N16, rfl⟩ (by decide) (by decide) fun fs hr => ?_
  show St p e below s₁ m 0 #[rv a1, un, un] [] _
  refine iC X0 hx hby d4_0 ?_
  refine XS.istoreN X0.here hx rfl (hb hby d4_1) rfl (l' := #[rv a1, iv (0:Int32), un]) rfl ?_
  refine aN X0 hx hby d4_2 rfl rfl ?_
  refine XS.bipush X0.here hx rfl (hb hby d4_3) ?_
  refine st16.trans ?_
  refine XS.istoreN X16.here hx rfl (hb hby d4_8) rfl (l' := #[rv a1, iv (0:Int32), iv p14]) rfl ?_
  refine iN X16 hx hby d4_9 rfl ?_
  refine XS.ifYes X16.here hx rfl (pc0 := 10) (pc' := 29) rfl (hb hby d4_10) rfl ((if0 _ _).trans (tlt hc17).1) (by decide) (by decide) ?_
  refine iN X16 hx hby d4_29 rfl ?_
  exact retI X16 hx Bd.returns (hb hby d4_30) hr
theorem pd6 : parseMethodDescriptor "(Ljava/lang/String;)I" = some ⟨[(.object "java/lang/String")], some .int⟩ := by decide +kernel
theorem d3_4 : dk cP22_2 4 (.iconst 1) 1 := by decide +kernel
theorem d3_5 : dk cP22_2 5 .iadd 1 := by decide +kernel
theorem d3_6 : dk cP22_2 6 (.anewarray 13) 3 := by decide +kernel
theorem d3_9 : dk cP22_2 9 (.astore_n 1) 1 := by decide +kernel
theorem d3_10 : dk cP22_2 10 (.iconst 0) 1 := by decide +kernel
theorem d3_11 : dk cP22_2 11 (.istore_n 2) 1 := by decide +kernel
theorem d3_12 : dk cP22_2 12 (.iconst 0) 1 := by decide +kernel
theorem d3_13 : dk cP22_2 13 (.istore_n 3) 1 := by decide +kernel
theorem d3_14 : dk cP22_2 14 (.iload_n 3) 1 := by decide +kernel
theorem d3_15 : dk cP22_2 15 (.aload_n 1) 1 := by decide +kernel
theorem d3_16 : dk cP22_2 16 .arraylength 1 := by decide +kernel
theorem d3_17 : dk cP22_2 17 (.iconst 1) 1 := by decide +kernel
theorem d3_18 : dk cP22_2 18 .isub 1 := by decide +kernel
theorem d3_19 : dk cP22_2 19 (.if_icmp .ge 33) 3 := by decide +kernel
theorem d3_52 : dk cP22_2 52 (.aload_n 1) 1 := by decide +kernel
theorem d3_53 : dk cP22_2 53 (.aload_n 1) 1 := by decide +kernel
theorem d3_54 : dk cP22_2 54 .arraylength 1 := by decide +kernel
theorem d3_55 : dk cP22_2 55 (.iconst 1) 1 := by decide +kernel
theorem d3_56 : dk cP22_2 56 .isub 1 := by decide +kernel
theorem d3_57 : dk cP22_2 57 (.aload_n 0) 1 := by decide +kernel
theorem d3_58 : dk cP22_2 58 (.iload_n 2) 1 := by decide +kernel
theorem d3_59 : dk cP22_2 59 (.invokevirtual 23) 3 := by decide +kernel
theorem d14_0 : dk jdk_42_method_91_code 0 (.aload_n 0) 1 := by decide +kernel
theorem d14_1 : dk jdk_42_method_91_code 1 (.iload_n 1) 1 := by decide +kernel
theorem d14_2 : dk jdk_42_method_91_code 2 (.aload_n 0) 1 := by decide +kernel
theorem d14_3 : dk jdk_42_method_91_code 3 (.invokevirtual 505) 3 := by decide +kernel
theorem d14_6 : dk jdk_42_method_91_code 6 (.invokevirtual 681) 3 := by decide +kernel
theorem d15_0 : dk cJ42_92 0 (.aload_n 0) 1 := by decide +kernel
theorem d15_1 : dk cJ42_92 1 (.invokevirtual 505) 3 := by decide +kernel
theorem d15_4 : dk cJ42_92 4 (.istore_n 3) 1 := by decide +kernel
theorem d15_5 : dk cJ42_92 5 (.iload_n 1) 1 := by decide +kernel
theorem d15_6 : dk cJ42_92 6 (.iload_n 2) 1 := by decide +kernel
theorem d15_7 : dk cJ42_92 7 (.iload_n 3) 1 := by decide +kernel
theorem d15_8 : dk cJ42_92 8 (.invokestatic 521) 3 := by decide +kernel
theorem d16_0 : dk cJ42_158 0 (.iload_n 0) 1 := by decide +kernel
theorem d16_1 : dk cJ42_158 1 (.iload_n 1) 1 := by decide +kernel
theorem d16_2 : dk cJ42_158 2 (.iload_n 2) 1 := by decide +kernel
theorem d16_3 : dk cJ42_158 3 (.getstatic 1053) 3 := by decide +kernel
theorem d16_6 : dk cJ42_158 6 (.invokestatic 1062) 3 := by decide +kernel
theorem d17_0 : dk cJ41_12 0 (.iload_n 0) 1 := by decide +kernel
theorem d17_1 : dk cJ41_12 1 (.ifCond .lt 13) 3 := by decide +kernel
theorem d17_4 : dk cJ41_12 4 (.iload_n 0) 1 := by decide +kernel
theorem d17_5 : dk cJ41_12 5 (.iload_n 1) 1 := by decide +kernel
theorem d17_6 : dk cJ41_12 6 (.if_icmp .gt 8) 3 := by decide +kernel
theorem d17_9 : dk cJ41_12 9 (.iload_n 1) 1 := by decide +kernel
theorem d17_10 : dk cJ41_12 10 (.iload_n 2) 1 := by decide +kernel
theorem d17_11 : dk cJ41_12 11 (.if_icmp .le 11) 3 := by decide +kernel
theorem d17_22 : dk cJ41_12 22 (.iload_n 0) 1 := by decide +kernel
theorem d17_23 : dk cJ41_12 23 .ireturn 1 := by decide +kernel
abbrev y17 : MethodName := ⟨"jdk/internal/util/Preconditions", "checkFromToIndex", "(IIILjava/util/function/BiFunction;)I"⟩
theorem pn2 : plainName "jdk/internal/util/Preconditions" = true := by first | (simp [plainName, overriddenIn]; done) | decide +kernel
def r17_1Q (Z : State) (p1 p2 p3:Int32) (h0 : Heap) (n0 : Nat) : QT := fun v h L => v = some (.int p1) ∧ Fr n0 L ∧ h = h0
theorem r17_1 (l : Launch) (Z : State) (a0 : Array Value) (hw : HW a0 Z) (ws : List Jvm.Cond) (p1 p2 p3:Int32) (h0 : Heap) (n0 : Nat) (O0 : Old Z n0 h0) (hc4 : ¬ (p1 < (0:Int32))) (hc5 : ¬ (p2 < p1)) (hc6 : ¬ (p3 < p2)) :
    MF l y17 cJ41_12 4 (some .int) ws (rM 0 0 0 0) Z #[(.int p1), (.int p2), (.int p3), .null] h0 (r17_1Q Z p1 p2 p3 h0 n0) := by
  refine own_in (pq pn2) #[iv p1, iv p2, iv p3, .val .null] (fun _ => by first | (simp [entryFrame, mkF, argsToLocals, Value.category]; done) | rfl) ?_
  intro p e s m below meth c s₁ Bd hx hby hml hown hnm hZ e0 X0
  have N0 := Fr.nil n0
  refine fin (Q := r17_1Q Z p1 p2 p3 h0 n0) (rm := (rM 0 0 0 0)) Bd X0 e0 (some (.int p1)) nofun ⟨rfl, N0, rfl⟩ (by decide) (by decide) fun fs hr => ?_
  show St p e below s₁ m 0 #[iv p1, iv p2, iv p3, .val .null] [] _
  refine iN X0 hx hby d17_0 rfl ?_
  refine XS.ifNo X0.here hx rfl (hb hby d17_1) rfl ((if0 _ _).trans (flt hc4).1) ?_
  refine iN X0 hx hby d17_4 rfl ?_
  refine iN X0 hx hby d17_5 rfl ?_
  refine XS.icmpNo X0.here hx rfl (hb hby d17_6) rfl (flt hc5).2.2.1 ?_
  refine iN X0 hx hby d17_9 rfl ?_
  refine iN X0 hx hby d17_10 rfl ?_
  refine XS.icmpYes X0.here hx rfl (pc0 := 11) (pc' := 22) rfl (hb hby d17_11) rfl (flt hc6).2.2.2 (by decide) (by decide) ?_
  refine iN X0 hx hby d17_22 rfl ?_
  exact retI X0 hx Bd.returns (hb hby d17_23) hr
theorem pd1 : parseMethodDescriptor "(IIILjava/util/function/BiFunction;)I" = some ⟨[.int, .int, .int, (.object "java/util/function/BiFunction")], some .int⟩ := by decide +kernel
theorem d16_9 : dk cJ42_158 9 .pop 1 := by decide +kernel
theorem d16_10 : dk cJ42_158 10 .return_ 1 := by decide +kernel
def r17_2Q (Z : State) (p1 p2 p3:Int32) (a4 : Addr) (h0 : Heap) (n0 : Nat) : QT := fun v h L => v = some (.int p1) ∧ Fr n0 L ∧ h = h0
theorem r17_2 (l : Launch) (Z : State) (a0 : Array Value) (hw : HW a0 Z) (ws : List Jvm.Cond) (p1 p2 p3:Int32) (a4 : Addr) (h0 : Heap) (n0 : Nat) (O0 : Old Z n0 h0) (hc5 : ¬ (p1 < (0:Int32))) (hc6 : ¬ (p2 < p1)) (hc7 : ¬ (p3 < p2)) :
    MF l y17 cJ41_12 4 (some .int) ws (rM 0 0 0 0) Z #[(.int p1), (.int p2), (.int p3), (.ref a4)] h0 (r17_2Q Z p1 p2 p3 a4 h0 n0) := by
  refine own_in (pq pn2) #[iv p1, iv p2, iv p3, rv a4] (fun _ => by first | (simp [entryFrame, mkF, argsToLocals, Value.category]; done) | rfl) ?_
  intro p e s m below meth c s₁ Bd hx hby hml hown hnm hZ e0 X0
  have N0 := Fr.nil n0
  refine fin (Q := r17_2Q Z p1 p2 p3 a4 h0 n0) (rm := (rM 0 0 0 0)) Bd X0 e0 (some (.int p1)) nofun ⟨rfl, N0, rfl⟩ (by decide) (by decide) fun fs hr => ?_
  show St p e below s₁ m 0 #[iv p1, iv p2, iv p3, rv a4] [] _
  refine iN X0 hx hby d17_0 rfl ?_
  refine XS.ifNo X0.here hx rfl (hb hby d17_1) rfl ((if0 _ _).trans (flt hc5).1) ?_
  refine iN X0 hx hby d17_4 rfl ?_
  refine iN X0 hx hby d17_5 rfl ?_
  refine XS.icmpNo X0.here hx rfl (hb hby d17_6) rfl (flt hc6).2.2.1 ?_
  refine iN X0 hx hby d17_9 rfl ?_
  refine iN X0 hx hby d17_10 rfl ?_
  refine XS.icmpYes X0.here hx rfl (pc0 := 11) (pc' := 22) rfl (hb hby d17_11) rfl (flt hc7).2.2.2 (by decide) (by decide) ?_
  refine iN X0 hx hby d17_22 rfl ?_
  exact retI X0 hx Bd.returns (hb hby d17_23) hr
abbrev y16 : MethodName := ⟨"java/lang/String", "checkBoundsBeginEnd", "(III)V"⟩
def r16_1Q (Z : State) (p1 p2 p3:Int32) (h0 : Heap) (n0 : Nat) : QT := fun v h L => v = none ∧ Fr n0 L ∧ h = h0
theorem r16_1 (l : Launch) (Z : State) (a0 : Array Value) (hw : HW a0 Z) (ws : List Jvm.Cond) (p1 p2 p3:Int32) (h0 : Heap) (n0 : Nat) (O0 : Old Z n0 h0) (HF : Sta Z Z.heap "jdk/internal/util/Preconditions" "SIOOBE_FORMATTER" "Ljava/util/function/BiFunction;" .null) (hc5 : ¬ (p1 < (0:Int32))) (hc6 : ¬ (p2 < p1)) (hc7 : ¬ (p3 < p2)) :
    MF l y16 cJ42_158 3 none ws (rM 1 0 0 15) Z #[(.int p1), (.int p2), (.int p3)] h0 (r16_1Q Z p1 p2 p3 h0 n0) := by
  refine own_in (pq pn5) #[iv p1, iv p2, iv p3] (fun _ => by first | (simp [entryFrame, mkF, argsToLocals, Value.category]; done) | rfl) ?_
  intro p e s m below meth c s₁ Bd hx hby hml hown hnm hZ e0 X0
  have N0 := Fr.nil n0
  obtain ⟨_, X4, e4, st4⟩ := getS2 X0 hx hZ hown (host := "") (Or.inl (ow hw 80 rfl)) Via.refl e0 (HF.ext O0.2) (g := (mkF m 3 #[iv p1, iv p2, iv p3] [(.int p3), (.int p2), (.int p1)])) rfl (hb hby d16_3)
  obtain ⟨_, _, _, X8, hQ8, st8⟩ := cS X4 hx hZ hw hown (y := y17) 82 rfl 83 rfl 81 rfl 84 rfl (by decide) (W := 0) (r17_1 l Z a0 hw [] p1 p2 p3 h0 n0 O0 hc5 hc6 hc7) (by decide) (by decide) e4 (g := (mkF m 6 #[iv p1, iv p2, iv p3] [.null, (.int p3), (.int p2), (.int p1)])) rfl (by rw [hml]; rfl) (argsL := [(.int p1), (.int p2), (.int p3), .null]) (rest := []) (lenOf pd1 rfl) rfl wf (hb hby d16_6) rfl (by decide) (by decide)
  obtain ⟨rfl, N8q, e8⟩ := hQ8
  have N8 := Fr.app N0 N8q
  refine fin (Q := r16_1Q Z p1 p2 p3 h0 n0) (rm := (rM 1 0 0 15)) Bd X8 e8 (none) (fun _ => rfl) ⟨rfl, N8, rfl⟩ (by decide) (by decide) fun fs hr => ?_
  show St p e below s₁ m 0 #[iv p1, iv p2, iv p3] [] _
  refine iN X0 hx hby d16_0 rfl ?_
  refine iN X0 hx hby d16_1 rfl ?_
  refine iN X0 hx hby d16_2 rfl ?_
  refine st4 _ ?_
  refine st8 _ ?_
  refine XS.pop X8.here hx rfl (hb hby d16_9) rfl rfl ?_
  exact X8.returnOut hx Bd.returns (hb hby d16_10) hr
def r16_2Q (Z : State) (p1 p2 p3:Int32) (w1 : Addr) (h0 : Heap) (n0 : Nat) : QT := fun v h L => v = none ∧ Fr n0 L ∧ h = h0
theorem r16_2 (l : Launch) (Z : State) (a0 : Array Value) (hw : HW a0 Z) (ws : List Jvm.Cond) (p1 p2 p3:Int32) (w1 : Addr) (h0 : Heap) (n0 : Nat) (O0 : Old Z n0 h0) (HF : Sta Z Z.heap "jdk/internal/util/Preconditions" "SIOOBE_FORMATTER" "Ljava/util/function/BiFunction;" (.ref w1)) (hc5 : ¬ (p1 < (0:Int32))) (hc6 : ¬ (p2 < p1)) (hc7 : ¬ (p3 < p2)) :
    MF l y16 cJ42_158 3 none ws (rM 1 0 0 15) Z #[(.int p1), (.int p2), (.int p3)] h0 (r16_2Q Z p1 p2 p3 w1 h0 n0) := by
  refine own_in (pq pn5) #[iv p1, iv p2, iv p3] (fun _ => by first | (simp [entryFrame, mkF, argsToLocals, Value.category]; done) | rfl) ?_
  intro p e s m below meth c s₁ Bd hx hby hml hown hnm hZ e0 X0
  have N0 := Fr.nil n0
  obtain ⟨_, X4, e4, st4⟩ := getS2 X0 hx hZ hown (host := "") (Or.inl (ow hw 80 rfl)) Via.refl e0 (HF.ext O0.2) (g := (mkF m 3 #[iv p1, iv p2, iv p3] [(.int p3), (.int p2), (.int p1)])) rfl (hb hby d16_3)
  obtain ⟨_, _, _, X8, hQ8, st8⟩ := cS X4 hx hZ hw hown (y := y17) 82 rfl 83 rfl 81 rfl 84 rfl (by decide) (W := 0) (r17_2 l Z a0 hw [] p1 p2 p3 w1 h0 n0 O0 hc5 hc6 hc7) (by decide) (by decide) e4 (g := (mkF m 6 #[iv p1, iv p2, iv p3] [(.ref w1), (.int p3), (.int p2), (.int p1)])) rfl (by rw [hml]; rfl) (argsL := [(.int p1), (.int p2), (.int p3), (.ref w1)]) (rest := []) (lenOf pd1 rfl) rfl wf (hb hby d16_6) rfl (by decide) (by decide)
  obtain ⟨rfl, N8q, e8⟩ := hQ8
  have N8 := Fr.app N0 N8q
  refine fin (Q := r16_2Q Z p1 p2 p3 w1 h0 n0) (rm := (rM 1 0 0 15)) Bd X8 e8 (none) (fun _ => rfl) ⟨rfl, N8, rfl⟩ (by decide) (by decide) fun fs hr => ?_
  show St p e below s₁ m 0 #[iv p1, iv p2, iv p3] [] _
  refine iN X0 hx hby d16_0 rfl ?_
  refine iN X0 hx hby d16_1 rfl ?_
  refine iN X0 hx hby d16_2 rfl ?_
  refine st4 _ ?_
  refine st8 _ ?_
  refine XS.pop X8.here hx rfl (hb hby d16_9) rfl rfl ?_
  exact X8.returnOut hx Bd.returns (hb hby d16_10) hr
theorem own_cbe (l : Launch) (Z : State) (a0 : Array Value) (hw : HW a0 Z) (ws : List Jvm.Cond) (p1 p2 p3:Int32) (vF : Value) (h0 : Heap) (n0 : Nat) (O0 : Old Z n0 h0) (H1 : Sta Z Z.heap "jdk/internal/util/Preconditions" "SIOOBE_FORMATTER" "Ljava/util/function/BiFunction;" vF) (H2 : vF.isRef = true) (H3 : ¬ (p1 < (0:Int32))) (H4 : ¬ (p2 < p1)) (H5 : ¬ (p3 < p2)) :
    MF l y16 cJ42_158 3 none ws ({ frames := 1, cells := 0, slots := 0, locals := 15 } : Room) Z #[(.int p1), (.int p2), (.int p3)] h0 (own_nQ h0 n0) := by
  cases vF with
  | null => exact r16_1 l Z a0 hw ws p1 p2 p3 h0 n0 O0 H1 H3 H4 H5
  | ref w => exact r16_2 l Z a0 hw ws p1 p2 p3 w h0 n0 O0 H1 H3 H4 H5
  | _ => simp [Value.isRef] at H2
theorem pd12 : parseMethodDescriptor "(III)V" = some ⟨[.int, .int, .int], none⟩ := by decide +kernel
theorem d15_11 : dk cJ42_92 11 (.iload_n 1) 1 := by decide +kernel
theorem d15_12 : dk cJ42_92 12 (.ifCond .ne 10) 3 := by decide +kernel
theorem d15_15 : dk cJ42_92 15 (.iload_n 2) 1 := by decide +kernel
theorem d15_16 : dk cJ42_92 16 (.iload_n 3) 1 := by decide +kernel
theorem d15_17 : dk cJ42_92 17 (.if_icmp .ne 5) 3 := by decide +kernel
theorem d15_20 : dk cJ42_92 20 (.aload_n 0) 1 := by decide +kernel
theorem d15_21 : dk cJ42_92 21 .areturn 1 := by decide +kernel
theorem d15_22 : dk cJ42_92 22 (.iload_n 2) 1 := by decide +kernel
theorem d15_23 : dk cJ42_92 23 (.iload_n 1) 1 := by decide +kernel
theorem d15_24 : dk cJ42_92 24 .isub 1 := by decide +kernel
theorem d15_25 : dk cJ42_92 25 (.istore 4) 2 := by decide +kernel
theorem d15_27 : dk cJ42_92 27 (.aload_n 0) 1 := by decide +kernel
theorem d15_28 : dk cJ42_92 28 (.invokevirtual 492) 3 := by decide +kernel
theorem d15_31 : dk cJ42_92 31 (.ifCond .eq 16) 3 := by decide +kernel
theorem d15_34 : dk cJ42_92 34 (.aload_n 0) 1 := by decide +kernel
theorem d15_35 : dk cJ42_92 35 (.getfield 9) 3 := by decide +kernel
theorem d15_38 : dk cJ42_92 38 (.iload_n 1) 1 := by decide +kernel
theorem d15_39 : dk cJ42_92 39 (.iload 4) 2 := by decide +kernel
theorem d15_41 : dk cJ42_92 41 (.invokestatic 685) 3 := by decide +kernel
theorem d18_0 : dk cJ43_47 0 (.iload_n 2) 1 := by decide +kernel
theorem d18_1 : dk cJ43_47 1 (.ifCond .ne 6) 3 := by decide +kernel
theorem d18_4 : dk cJ43_47 4 (.ldc 151) 2 := by decide +kernel
theorem d18_6 : dk cJ43_47 6 .areturn 1 := by decide +kernel
abbrev y18 : MethodName := ⟨"java/lang/StringLatin1", "newString", "([BII)Ljava/lang/String;"⟩
def r18_1Q (Z : State) (a1 : Addr) (p2 p3:Int32) (h0 : Heap) (n0 : Nat) : QT := fun v h L => ∃ (a5 b5 : Addr) (k5 : ClassId), v = some (.ref a5) ∧ Fr n0 L ∧ Keep h0 h [] ∧ xE1 Z h a5 ∧ xF2 Z h a5 (.int (0:Int32)) ∧ xF3 Z h a5 (.ref b5) ∧ Arv Z h b5 k5 .byte (own_tn []) (own_tb []) (.int (0:Int32))
theorem r18_1 (l : Launch) (Z : State) (a0 : Array Value) (hw : HW a0 Z) (ws : List Jvm.Cond) (a1 : Addr) (p2 p3:Int32) (h0 : Heap) (n0 : Nat) (O0 : Old Z n0 h0) (hc4 : p3 = (0:Int32)) :
    MFH l y18 cJ43_47 3 (some (.object "java/lang/String")) ws (rM 0 2 4 0) Z #[(.ref a1), (.int p2), (.int p3)] h0 (r18_1Q Z a1 p2 p3 h0 n0) := by
  refine own_inH (pq pn3) #[rv a1, iv p2, iv p3] (fun _ => by first | (simp [entryFrame, mkF, argsToLocals, Value.category]; done) | rfl) ?_
  intro p e s m below meth c s₁ Bd hx hby hml hown hnm hZ hh C0 e0 X0
  have N0 := Fr.nil n0
  obtain ⟨a5, T5, h5, _, b5, k5, X5, e5, E5, hS5, hk5, hZ5, _, Ea5, Fc5, Fv5, Ab5, -, -, Cq5, -, _, st5⟩ := ldcCH (s := s) (vm0 := s.vm) X0 hx hZ (own := "java/lang/StringLatin1") hown (ow hw 129 rfl) (fun d hd => hw d (strW d hd)) e0 (State.WarmedH.since (State.WarmedH.refl s) 0) (Nat.zero_le _) (own_EW hw) (List.mem_of_getElem? (i := 1) rfl) C0.1 (vs := []) (z := 0) own_lit0 (by decide) rfl (g := (mkF m 4 #[rv a1, iv p2, iv p3] [])) rfl (hb hby d18_4) (n := 0) (by decide) (by decide) (by decide) (by decide)
  have Kp_E5 : Keep h0 h5 [] := (Keep.refl h0 []).ext E5
  have c_E5 := Cq5
  have C_E5 := C0.trans c_E5
  have Av5 : Arv Z h5 b5 k5 .byte (own_tn []) (own_tb []) (.int (0:Int32)) := Ab5
  refine finH (Q := r18_1Q Z a1 p2 p3 h0 n0) (rm := (rM 0 2 4 0)) (vm := T5.vm) Bd X5 hZ5 (own_EW hw) C_E5 hh e5 hS5 hk5 (some (.ref a5)) nofun ⟨a5, b5, k5, rfl, N0, Kp_E5, Ea5, Fc5, Fv5, Av5⟩ (by decide) (by decide) fun fs hr => ?_
  show St p e below s₁ m 0 #[rv a1, iv p2, iv p3] [] _
  refine iN X0 hx hby d18_0 rfl ?_
  refine XS.ifNo X0.here hx rfl (hb hby d18_1) rfl ((if0 _ _).trans (teq hc4).2) ?_
  refine st5 _ ?_
  exact retA X5 hx Bd.returns rfl rfl (hb hby d18_6) hr
theorem pd3 : parseMethodDescriptor "([BII)Ljava/lang/String;" = some ⟨[(.array .byte), .int, .int], some (.object "java/lang/String")⟩ := by decide +kernel
theorem d15_44 : dk cJ42_92 44 (.goto 13) 3 := by decide +kernel
theorem d15_57 : dk cJ42_92 57 .areturn 1 := by decide +kernel
theorem d18_7 : dk cJ43_47 7 (.new 1) 3 := by decide +kernel
theorem d18_10 : dk cJ43_47 10 .dup 1 := by decide +kernel
theorem d18_11 : dk cJ43_47 11 (.aload_n 0) 1 := by decide +kernel
theorem d18_12 : dk cJ43_47 12 (.iload_n 1) 1 := by decide +kernel
theorem d18_13 : dk cJ43_47 13 (.iload_n 1) 1 := by decide +kernel
theorem d18_14 : dk cJ43_47 14 (.iload_n 2) 1 := by decide +kernel
theorem d18_15 : dk cJ43_47 15 .iadd 1 := by decide +kernel
theorem d18_16 : dk cJ43_47 16 (.invokestatic 232) 3 := by decide +kernel
theorem d19_0 : dk cJ65_132 0 (.iload_n 1) 1 := by decide +kernel
theorem d19_1 : dk cJ65_132 1 (.ifCond .ne 9) 3 := by decide +kernel
theorem d19_4 : dk cJ65_132 4 (.iload_n 2) 1 := by decide +kernel
theorem d19_5 : dk cJ65_132 5 (.aload_n 0) 1 := by decide +kernel
theorem d19_6 : dk cJ65_132 6 .arraylength 1 := by decide +kernel
theorem d19_7 : dk cJ65_132 7 (.if_icmp .eq 10) 3 := by decide +kernel
theorem d19_10 : dk cJ65_132 10 (.aload_n 0) 1 := by decide +kernel
theorem d19_11 : dk cJ65_132 11 (.iload_n 1) 1 := by decide +kernel
theorem d19_12 : dk cJ65_132 12 (.iload_n 2) 1 := by decide +kernel
theorem d19_13 : dk cJ65_132 13 (.invokestatic 339) 3 := by decide +kernel
theorem d20_0 : dk cJ65_133 0 (.iload_n 1) 1 := by decide +kernel
theorem d20_1 : dk cJ65_133 1 (.iload_n 2) 1 := by decide +kernel
theorem d20_2 : dk cJ65_133 2 (.invokestatic 343) 3 := by decide +kernel
theorem d21_0 : dk jdk_65_method_131_code 0 (.iload_n 1) 1 := by decide +kernel
theorem d21_1 : dk jdk_65_method_131_code 1 (.iload_n 0) 1 := by decide +kernel
theorem d21_2 : dk jdk_65_method_131_code 2 (.if_icmp .ge 35) 3 := by decide +kernel
theorem d21_37 : dk jdk_65_method_131_code 37 .return_ 1 := by decide +kernel
abbrev y21 : MethodName := ⟨"java/util/Arrays", "checkLength", "(II)V"⟩
theorem pn4 : plainName "java/util/Arrays" = true := by first | (simp [plainName, overriddenIn]; done) | decide +kernel
def r21_1Q (Z : State) (p1 p2:Int32) (h0 : Heap) (n0 : Nat) : QT := fun v h L => v = none ∧ Fr n0 L ∧ h = h0
theorem r21_1 (l : Launch) (Z : State) (a0 : Array Value) (hw : HW a0 Z) (ws : List Jvm.Cond) (p1 p2:Int32) (h0 : Heap) (n0 : Nat) (O0 : Old Z n0 h0) (hc3 : ¬ (p2 < p1)) :
    MF l y21 jdk_65_method_131_code 2 none ws (rM 0 0 0 0) Z #[(.int p1), (.int p2)] h0 (r21_1Q Z p1 p2 h0 n0) := by
  refine own_in (pq pn4) #[iv p1, iv p2] (fun _ => by first | (simp [entryFrame, mkF, argsToLocals, Value.category]; done) | rfl) ?_
  intro p e s m below meth c s₁ Bd hx hby hml hown hnm hZ e0 X0
  have N0 := Fr.nil n0
  refine fin (Q := r21_1Q Z p1 p2 h0 n0) (rm := (rM 0 0 0 0)) Bd X0 e0 (none) (fun _ => rfl) ⟨rfl, N0, rfl⟩ (by decide) (by decide) fun fs hr => ?_
  show St p e below s₁ m 0 #[iv p1, iv p2] [] _
  refine iN X0 hx hby d21_0 rfl ?_
  refine iN X0 hx hby d21_1 rfl ?_
  refine XS.icmpYes X0.here hx rfl (pc0 := 2) (pc' := 37) rfl (hb hby d21_2) rfl (flt hc3).2.1 (by decide) (by decide) ?_
  exact X0.returnOut hx Bd.returns (hb hby d21_37) hr
theorem pd15 : parseMethodDescriptor "(II)V" = some ⟨[.int, .int], none⟩ := by decide +kernel
theorem d20_5 : dk cJ65_133 5 (.iload_n 2) 1 := by decide +kernel
theorem d20_6 : dk cJ65_133 6 (.iload_n 1) 1 := by decide +kernel
theorem d20_7 : dk cJ65_133 7 .isub 1 := by decide +kernel
theorem d20_8 : dk cJ65_133 8 (.istore_n 3) 1 := by decide +kernel
theorem d20_9 : dk cJ65_133 9 (.iload_n 3) 1 := by decide +kernel
theorem d20_10 : dk cJ65_133 10 (.newarray .byte) 2 := by decide +kernel
theorem d20_12 : dk cJ65_133 12 (.astore 4) 2 := by decide +kernel
theorem d20_14 : dk cJ65_133 14 (.aload_n 0) 1 := by decide +kernel
theorem d20_15 : dk cJ65_133 15 (.iload_n 1) 1 := by decide +kernel
theorem d20_16 : dk cJ65_133 16 (.aload 4) 2 := by decide +kernel
theorem d20_18 : dk cJ65_133 18 (.iconst 0) 1 := by decide +kernel
theorem d20_19 : dk cJ65_133 19 (.aload_n 0) 1 := by decide +kernel
theorem d20_20 : dk cJ65_133 20 .arraylength 1 := by decide +kernel
theorem d20_21 : dk cJ65_133 21 (.iload_n 1) 1 := by decide +kernel
theorem d20_22 : dk cJ65_133 22 .isub 1 := by decide +kernel
theorem d20_23 : dk cJ65_133 23 (.iload_n 3) 1 := by decide +kernel
theorem d20_24 : dk cJ65_133 24 (.invokestatic 304) 3 := by decide +kernel
theorem d12_9 : dk cJ29_69 9 (.iload_n 1) 1 := by decide +kernel
def r12_2Q (Z : State) (p1 p2:Int32) (h0 : Heap) (n0 : Nat) : QT := fun v h L => v = some (.int p2) ∧ Fr n0 L ∧ h = h0
theorem r12_2 (l : Launch) (Z : State) (a0 : Array Value) (hw : HW a0 Z) (ws : List Jvm.Cond) (p1 p2:Int32) (h0 : Heap) (n0 : Nat) (O0 : Old Z n0 h0) (hc3 : p2 < p1) :
    MF l y12 cJ29_69 2 (some .int) ws (rM 0 0 0 0) Z #[(.int p1), (.int p2)] h0 (r12_2Q Z p1 p2 h0 n0) := by
  refine own_in (Jvm.Free.JP.mathPlain rfl (by decide +kernel)) #[iv p1, iv p2] (fun _ => by first | (simp [entryFrame, mkF, argsToLocals, Value.category]; done) | rfl) ?_
  intro p e s m below meth c s₁ Bd hx hby hml hown hnm hZ e0 X0
  have N0 := Fr.nil n0
  refine fin (Q := r12_2Q Z p1 p2 h0 n0) (rm := (rM 0 0 0 0)) Bd X0 e0 (some (.int p2)) nofun ⟨rfl, N0, rfl⟩ (by decide) (by decide) fun fs hr => ?_
  show St p e below s₁ m 0 #[iv p1, iv p2] [] _
  refine iN X0 hx hby d12_0 rfl ?_
  refine iN X0 hx hby d12_1 rfl ?_
  refine XS.icmpYes X0.here hx rfl (pc0 := 2) (pc' := 9) rfl (hb hby d12_2) rfl (tlt hc3).2.2.1 (by decide) (by decide) ?_
  refine iN X0 hx hby d12_9 rfl ?_
  exact retI X0 hx Bd.returns (hb hby d12_10) hr
theorem d20_27 : dk cJ65_133 27 (.invokestatic 150) 3 := by decide +kernel
theorem d20_30 : dk cJ65_133 30 (.aload 4) 2 := by decide +kernel
theorem d20_32 : dk cJ65_133 32 .areturn 1 := by decide +kernel
abbrev xE4 (Z : State) (h : Heap) (a : Addr) : Prop := Exa Z h a "[B"
abbrev y20 : MethodName := ⟨"java/util/Arrays", "copyOfRangeByte", "([BII)[B"⟩
def r20_1Q (Z : State) (a1 : Addr) (p2 p3:Int32) (k10 : ClassId) (c11 : List Int32) (h0 : Heap) (n0 : Nat) : QT := fun v h L => ∃ (b6 : Addr) (k6 : ClassId), v = some (.ref b6) ∧ Fr n0 L ∧ Keep h0 h [] ∧ h0.size ≤ b6 ∧ Arv Z h b6 k6 .byte (p3 - p2) (own_cp (p3 - p2) (own_tb c11) p2 (p3 - p2)) (.int (0:Int32)) ∧ xE4 Z h b6
theorem r20_1 (l : Launch) (Z : State) (a0 : Array Value) (hw : HW a0 Z) (ws : List Jvm.Cond) (a1 : Addr) (p2 p3:Int32) (k10 : ClassId) (c11 : List Int32) (h0 : Heap) (n0 : Nat) (O0 : Old Z n0 h0) (hc4 : ¬ (p3 < p2)) (hc7 : ¬ ((p3 - p2) < (0:Int32))) (hc8 : (p3 - p2).toNatClampNeg ≤ 6) (H12 : Arv Z h0 a1 k10 .byte (own_tn c11) (own_tb c11) (.int (0:Int32))) (hc14 : (p3 - p2) < ((own_tn c11) - p2)) (hc17 : ¬ (p2 < (0:Int32))) (hc18 : p2.toNatClampNeg + (p3 - p2).toNatClampNeg ≤ (own_tn c11).toNatClampNeg) (hc19 : (0:Int32).toNatClampNeg + (p3 - p2).toNatClampNeg ≤ (p3 - p2).toNatClampNeg) :
    MF l y20 cJ65_133 5 (some (.array .byte)) ws (rM 1 1 6 18) Z #[(.ref a1), (.int p2), (.int p3)] h0 (r20_1Q Z a1 p2 p3 k10 c11 h0 n0) := by
  refine own_in (pq pn4) #[rv a1, iv p2, iv p3, un, un] (fun _ => by first | (simp [entryFrame, mkF, argsToLocals, Value.category]; done) | rfl) ?_
  intro p e s m below meth c s₁ Bd hx hby hml hown hnm hZ e0 X0
  have N0 := Fr.nil n0
  obtain ⟨_, _, _, X5, hQ5, st5⟩ := cS X0 hx hZ hw hown (y := y21) 155 rfl 156 rfl 150 rfl 157 rfl (by decide) (W := 0) (r21_1 l Z a0 hw [] p2 p3 h0 n0 O0 hc4) (by decide) (by decide) e0 (g := (mkF m 2 #[rv a1, iv p2, iv p3, un, un] [(.int p3), (.int p2)])) rfl (by rw [hml]; rfl) (argsL := [(.int p2), (.int p3)]) (rest := []) (lenOf pd15 rfl) rfl wf (hb hby d20_2) rfl (by decide) (by decide)
  obtain ⟨rfl, N5q, e5⟩ := hQ5
  have N5 := Fr.app N0 N5q
  obtain ⟨_, h6, k6, X6, e6, E6, A6, C6, st6⟩ := newPE X5 hx hZ (aty := .byte) (ow hw 11 rfl) e5 (g := (mkF m 10 #[rv a1, iv p2, iv p3, iv (p3 - p2), un] [(.int (p3 - p2))])) rfl (hb hby d20_10) rfl hc7 (cap := 6) hc8 (by decide) (by decide) (by decide) (ad := "[B") (by decide)
  obtain ⟨b6, g6⟩ : ∃ z, z = h0.size := ⟨_, rfl⟩
  rw [← g6] at A6 C6 st6
  have O_E6 : Old Z n0 h6 := O0.ext E6
  have Kp_E6 : Keep h0 h6 [] := (Keep.refl h0 []).ext E6
  have V6 : Arv Z h6 b6 k6 .byte (p3 - p2) (List.replicate (p3 - p2).toNatClampNeg (.int (0:Int32))) (.int (0:Int32)) := (Arv.new A6 hc7).pad (pad_rep [] _ _)
  have f13 := (H12.ext E6)
  obtain ⟨_, Ar9, _, S9, M9, _, _⟩ := id f13
  obtain ⟨_, _, _, X15, hQ15, st15⟩ := cS X6 hx hZ hw hown (y := y12) 158 rfl 63 rfl 60 rfl 64 rfl (by decide) (W := 4) (r12_2 l Z a0 hw [] ((own_tn c11) - p2) (p3 - p2) h6 n0 O_E6 hc14) (by decide) (by decide) e6 (g := (mkF m 24 #[rv a1, iv p2, iv p3, iv (p3 - p2), rv b6] [(.int (p3 - p2)), (.int ((own_tn c11) - p2)), (.int (0:Int32)), (.ref b6), (.int p2), (.ref a1)])) rfl (by rw [hml]; rfl) (argsL := [(.int ((own_tn c11) - p2)), (.int (p3 - p2))]) (rest := [(.int (0:Int32)), (.ref b6), (.int p2), (.ref a1)]) (lenOf pd14 rfl) rfl wf (hb hby d20_24) rfl (by decide) (by decide)
  obtain ⟨rfl, N15q, e15⟩ := hQ15
  have N15 := Fr.app N5 N15q
  have g20 : n0 ≤ b6 := Nat.le_trans (Nat.le_trans (Nat.le_of_eq O0.1.symm) O0.2.1) (Nat.le_of_eq g6.symm)
  obtain ⟨_, h16, _, X16, e16, N16, K16, V16, st16⟩ := cpA X15 hx hZ hown (ow hw 159 rfl) (ow hw 162 rfl) (ow hw 160 rfl) (ow hw 161 rfl) e15 f13 V6 (Or.inl ⟨rfl, rfl⟩) hc17 (by decide) hc7 hc18 hc19 rfl (by rw [List.length_replicate]; exact hc19) N15 g20 (g := (mkF m 27 #[rv a1, iv p2, iv p3, iv (p3 - p2), rv b6] [(.int (p3 - p2)), (.int (0:Int32)), (.ref b6), (.int p2), (.ref a1)])) rfl (by rw [hml]; rfl) rfl (hb hby d20_27) (by decide) (W := 0) wf (by decide)
  have z21 : h0.size ≤ b6 := Nat.le_trans (Keep.refl h0 []).1 (Nat.le_of_eq g6.symm)
  have Kp_K16 : Keep h0 h16 [] := Kp_E6.trans K16 (allS (Or.inr z21) all0)
  have f22 : Arv Z h16 b6 k6 .byte (p3 - p2) (own_cp (p3 - p2) (own_tb c11) p2 (p3 - p2)) (.int (0:Int32)) := V16
  have f23 := (C6.keep K16)
  refine fin (Q := r20_1Q Z a1 p2 p3 k10 c11 h0 n0) (rm := (rM 1 1 6 18)) Bd X16 e16 (some (.ref b6)) nofun ⟨b6, k6, rfl, N16, Kp_K16, z21, f22, f23⟩ (by decide) (by decide) fun fs hr => ?_
  show St p e below s₁ m 0 #[rv a1, iv p2, iv p3, un, un] [] _
  refine iN X0 hx hby d20_0 rfl ?_
  refine iN X0 hx hby d20_1 rfl ?_
  refine st5 _ ?_
  refine iN X5 hx hby d20_5 rfl ?_
  refine iN X5 hx hby d20_6 rfl ?_
  refine XS.isub X5.here hx rfl (hb hby d20_7) rfl ?_
  refine XS.istoreN X5.here hx rfl (hb hby d20_8) rfl (l' := #[rv a1, iv p2, iv p3, iv (p3 - p2), un]) rfl ?_
  refine iN X5 hx hby d20_9 rfl ?_
  refine st6 _ ?_
  refine XS.astore X6.here hx rfl (hb hby d20_12) rfl rfl (l' := #[rv a1, iv p2, iv p3, iv (p3 - p2), rv b6]) rfl ?_
  refine aN X6 hx hby d20_14 rfl rfl ?_
  refine iN X6 hx hby d20_15 rfl ?_
  refine aL X6 hx hby d20_16 rfl rfl ?_
  refine iC X6 hx hby d20_18 ?_
  refine aN X6 hx hby d20_19 rfl rfl ?_
  refine X6.arraylength hx (by rw [e6]; exact Ar9.1) (State.isArrayOf_alike hZ.alike Ar9.2.1) (g := (mkF m 20 #[rv a1, iv p2, iv p3, iv (p3 - p2), rv b6] [(.ref a1), (.int (0:Int32)), (.ref b6), (.int p2), (.ref a1)])) rfl rfl (hb hby d20_20) _ ?_
  rw [len_of S9 M9]
  refine iN X6 hx hby d20_21 rfl ?_
  refine XS.isub X6.here hx rfl (hb hby d20_22) rfl ?_
  refine iN X6 hx hby d20_23 rfl ?_
  refine st15 _ ?_
  refine st16 _ ?_
  refine aL X16 hx hby d20_30 rfl rfl ?_
  exact retA X16 hx Bd.returns rfl rfl (hb hby d20_32) hr
theorem pd10 : parseMethodDescriptor "([BII)[B" = some ⟨[(.array .byte), .int, .int], some (.array .byte)⟩ := by decide +kernel
theorem d19_16 : dk cJ65_132 16 .areturn 1 := by decide +kernel
abbrev y19 : MethodName := ⟨"java/util/Arrays", "copyOfRange", "([BII)[B"⟩
def r19_1Q (Z : State) (a1 : Addr) (p2 p3:Int32) (k6 : ClassId) (c7 : List Int32) (h0 : Heap) (n0 : Nat) : QT := fun v h L => ∃ (b17_0 : Addr) (k17_0 : ClassId), v = some (.ref b17_0) ∧ Fr n0 L ∧ Keep h0 h [] ∧ h0.size ≤ b17_0 ∧ Arv Z h b17_0 k17_0 .byte (p3 - p2) (own_cp (p3 - p2) (own_tb c7) p2 (p3 - p2)) (.int (0:Int32)) ∧ xE4 Z h b17_0
theorem r19_1 (l : Launch) (Z : State) (a0 : Array Value) (hw : HW a0 Z) (ws : List Jvm.Cond) (a1 : Addr) (p2 p3:Int32) (k6 : ClassId) (c7 : List Int32) (h0 : Heap) (n0 : Nat) (O0 : Old Z n0 h0) (hc4 : p2 = (0:Int32)) (H8 : Arv Z h0 a1 k6 .byte (own_tn c7) (own_tb c7) (.int (0:Int32))) (hc9 : ¬ (p3 = (own_tn c7))) (hc10 : ¬ (p3 < p2)) (hc11 : ¬ ((p3 - p2) < (0:Int32))) (hc12 : (p3 - p2).toNatClampNeg ≤ 6) (hc13 : (p3 - p2) < ((own_tn c7) - p2)) (hc14 : ¬ (p2 < (0:Int32))) (hc15 : p2.toNatClampNeg + (p3 - p2).toNatClampNeg ≤ (own_tn c7).toNatClampNeg) (hc16 : (0:Int32).toNatClampNeg + (p3 - p2).toNatClampNeg ≤ (p3 - p2).toNatClampNeg) :
    MF l y19 cJ65_132 3 (some (.array .byte)) ws (rM 2 1 6 34) Z #[(.ref a1), (.int p2), (.int p3)] h0 (r19_1Q Z a1 p2 p3 k6 c7 h0 n0) := by
  refine own_in (pq pn4) #[rv a1, iv p2, iv p3] (fun _ => by first | (simp [entryFrame, mkF, argsToLocals, Value.category]; done) | rfl) ?_
  intro p e s m below meth c s₁ Bd hx hby hml hown hnm hZ e0 X0
  have N0 := Fr.nil n0
  obtain ⟨_, Ar5, _, S5, M5, _, _⟩ := id H8
  obtain ⟨T17, _, _, X17, hQ17, st17⟩ := cS X0 hx hZ hw hown (y := y20) 152 rfl 153 rfl 150 rfl 154 rfl (by decide) (W := 0) (r20_1 l Z a0 hw [] a1 p2 p3 k6 c7 h0 n0 O0 hc10 hc11 hc12 H8 hc13 hc14 hc15 hc16) (by decide) (by decide) e0 (g := (mkF m 13 #[rv a1, iv p2, iv p3] [(.int p3), (.int p2), (.ref a1)])) rfl (by rw [hml]; rfl) (argsL := [(.ref a1), (.int p2), (.int p3)]) (rest := []) (lenOf pd10 rfl) rfl wf (hb hby d19_13) rfl (by decide) (by decide)
  obtain ⟨b17_0, k17_0, rfl, N17q, K17, lo17_1, f17_2, f17_3⟩ := hQ17
  have N17 := Fr.app N0 N17q
  have Kp_K17 : Keep h0 T17.heap [] := (Keep.refl h0 []).trans K17 all0
  have z18 : h0.size ≤ b17_0 := Nat.le_trans (Keep.refl h0 []).1 lo17_1
  refine fin (Q := r19_1Q Z a1 p2 p3 k6 c7 h0 n0) (rm := (rM 2 1 6 34)) Bd X17 rfl (some (.ref b17_0)) nofun ⟨b17_0, k17_0, rfl, N17, Kp_K17, z18, f17_2, f17_3⟩ (by decide) (by decide) fun fs hr => ?_
  show St p e below s₁ m 0 #[rv a1, iv p2, iv p3] [] _
  refine iN X0 hx hby d19_0 rfl ?_
  refine XS.ifNo X0.here hx rfl (hb hby d19_1) rfl ((if0 _ _).trans (teq hc4).2) ?_
  refine iN X0 hx hby d19_4 rfl ?_
  refine aN X0 hx hby d19_5 rfl rfl ?_
  refine X0.arraylength hx (by rw [e0]; exact Ar5.1) (State.isArrayOf_alike hZ.alike Ar5.2.1) (g := (mkF m 6 #[rv a1, iv p2, iv p3] [(.ref a1), (.int p3)])) rfl rfl (hb hby d19_6) _ ?_
  rw [len_of S5 M5]
  refine XS.icmpNo X0.here hx rfl (hb hby d19_7) rfl (feq hc9).1 ?_
  refine aN X0 hx hby d19_10 rfl rfl ?_
  refine iN X0 hx hby d19_11 rfl ?_
  refine iN X0 hx hby d19_12 rfl ?_
  refine st17 _ ?_
  exact retA X17 hx Bd.returns rfl rfl (hb hby d19_16) hr
theorem d18_19 : dk cJ43_47 19 (.iconst 0) 1 := by decide +kernel
theorem d18_20 : dk cJ43_47 20 (.invokespecial 112) 3 := by decide +kernel
theorem d22_0 : dk cJ42_151 0 (.aload_n 0) 1 := by decide +kernel
theorem d22_1 : dk cJ42_151 1 (.invokespecial 1) 3 := by decide +kernel
theorem d22_4 : dk cJ42_151 4 (.aload_n 0) 1 := by decide +kernel
theorem d22_5 : dk cJ42_151 5 (.aload_n 1) 1 := by decide +kernel
theorem d22_6 : dk cJ42_151 6 (.putfield 9) 3 := by decide +kernel
theorem d22_9 : dk cJ42_151 9 (.aload_n 0) 1 := by decide +kernel
theorem d22_10 : dk cJ42_151 10 (.iload_n 2) 1 := by decide +kernel
theorem d22_11 : dk cJ42_151 11 (.putfield 15) 3 := by decide +kernel
theorem d22_14 : dk cJ42_151 14 .return_ 1 := by decide +kernel
abbrev y22 : MethodName := ⟨"java/lang/String", "<init>", "([BB)V"⟩
def r22_1Q (Z : State) (a1 a2 : Addr) (h0 : Heap) (n0 : Nat) : QT := fun v h L => v = none ∧ Fr n0 L ∧ Keep h0 h [a1] ∧ xF3 Z h a1 (.ref a2) ∧ xE1 Z h a1 ∧ xF2 Z h a1 (.int (0:Int32))
theorem r22_1 (l : Launch) (Z : State) (a0 : Array Value) (hw : HW a0 Z) (ws : List Jvm.Cond) (a1 a2 : Addr) (h0 : Heap) (n0 : Nat) (O0 : Old Z n0 h0) (H4 : xF3 Z h0 a1 .null) (H5 : xE1 Z h0 a1) (H7 : n0 ≤ a1) (H10 : xF2 Z h0 a1 (.int (0:Int32))) :
    MF l y22 cJ42_151 3 none ws (rM 1 0 0 12) Z #[(.ref a1), (.ref a2), (.int (0:Int32))] h0 (r22_1Q Z a1 a2 h0 n0) := by
  refine own_in (pq pn5) #[rv a1, rv a2, iv (0:Int32)] (fun _ => by first | (simp [entryFrame, mkF, argsToLocals, Value.category]; done) | rfl) ?_
  intro p e s m below meth c s₁ Bd hx hby hml hown hnm hZ e0 X0
  have N0 := Fr.nil n0
  obtain ⟨_, X3, e3, st3⟩ := initO X0 hx hZ hown (ow hw 101 rfl) (ow hw 102 rfl) (ow hw 103 rfl) e0 (g := (mkF m 1 #[rv a1, rv a2, iv (0:Int32)] [(.ref a1)])) rfl (by rw [hml]; rfl) rfl (hb hby d22_1) (by decide) (W := 0) wf (by decide)
  obtain ⟨_, h6, X6, e6, W6, st6⟩ := pF X3 hx hZ hown (ow hw 40 rfl) e3 H4 H5 (Or.inr ⟨(ow hw 12 rfl), rfl, hnm⟩) (ow hw 10 rfl) (ty := (.array .byte)) (by decide) rfl rfl (g := (mkF m 6 #[rv a1, rv a2, iv (0:Int32)] [(.ref a2), (.ref a1)])) rfl rfl (hb hby d22_6)
  have Kp_W6 : Keep h0 h6 [a1] := (Keep.refl h0 [a1]).wr W6 (mI 0 rfl)
  have N8 := Fr.snoc X6 N0 H7
  have f9 := H4.same W6
  have f11 := (H5.wr W6)
  have f12 := (H10.other W6 (Or.inr (slot_ne (Or.inr (ow hw 13 rfl)) (Or.inr (ow hw 12 rfl)) (by decide) (t := .byte) (t' := (.array .byte)) (by decide) (by decide))))
  obtain ⟨_, h13, X13, e13, W13, st13⟩ := pF X6 hx hZ hown (ow hw 39 rfl) e6 f12 f11 (Or.inr ⟨(ow hw 13 rfl), rfl, hnm⟩) (ow hw 10 rfl) (ty := .byte) (by decide) rfl rfl (g := (mkF m 11 #[rv a1, rv a2, iv (0:Int32)] [(.int (0:Int32)), (.ref a1)])) rfl rfl (hb hby d22_11)
  have Kp_W13 : Keep h0 h13 [a1] := Kp_W6.wr W13 (mI 0 rfl)
  have N14 := Fr.snoc X13 N8 H7
  have f15 := f12.same W13
  have f16 := (f11.wr W13)
  have f17 := (f9.other W13 (Or.inr (slot_ne (Or.inr (ow hw 12 rfl)) (Or.inr (ow hw 13 rfl)) (by decide) (t := (.array .byte)) (t' := .byte) (by decide) (by decide))))
  refine fin (Q := r22_1Q Z a1 a2 h0 n0) (rm := (rM 1 0 0 12)) Bd X13 e13 (none) (fun _ => rfl) ⟨rfl, N14, Kp_W13, f17, f16, f15⟩ (by decide) (by decide) fun fs hr => ?_
  show St p e below s₁ m 0 #[rv a1, rv a2, iv (0:Int32)] [] _
  refine aN X0 hx hby d22_0 rfl rfl ?_
  refine st3 _ ?_
  refine aN X3 hx hby d22_4 rfl rfl ?_
  refine aN X3 hx hby d22_5 rfl rfl ?_
  refine st6 _ ?_
  refine aN X6 hx hby d22_9 rfl rfl ?_
  refine iN X6 hx hby d22_10 rfl ?_
  refine st13 _ ?_
  exact X13.returnOut hx Bd.returns (hb hby d22_14) hr
theorem pd13 : parseMethodDescriptor "([BB)V" = some ⟨[(.array .byte), .byte], none⟩ := by decide +kernel
theorem d18_23 : dk cJ43_47 23 .areturn 1 := by decide +kernel
def r18_2Q (Z : State) (a1 : Addr) (p2 p3:Int32) (k7 : ClassId) (c8 : List Int32) (h0 : Heap) (n0 : Nat) : QT := fun v h L => ∃ (b5 b19_0 : Addr) (k19_0 : ClassId), v = some (.ref b5) ∧ Fr n0 L ∧ Keep h0 h [] ∧ h0.size ≤ b5 ∧ h0.size ≤ b19_0 ∧ b5 ≠ b19_0 ∧ xE1 Z h b5 ∧ xF3 Z h b5 (.ref b19_0) ∧ xF2 Z h b5 (.int (0:Int32)) ∧ Arv Z h b19_0 k19_0 .byte ((p2 + p3) - p2) (own_cp ((p2 + p3) - p2) (own_tb c8) p2 ((p2 + p3) - p2)) (.int (0:Int32)) ∧ xE4 Z h b19_0
theorem r18_2 (l : Launch) (Z : State) (a0 : Array Value) (hw : HW a0 Z) (ws : List Jvm.Cond) (a1 : Addr) (p2 p3:Int32) (k7 : ClassId) (c8 : List Int32) (h0 : Heap) (n0 : Nat) (O0 : Old Z n0 h0) (hc4 : ¬ (p3 = (0:Int32))) (hc6 : p2 = (0:Int32)) (H9 : Arv Z h0 a1 k7 .byte (own_tn c8) (own_tb c8) (.int (0:Int32))) (hc11 : ¬ ((p2 + p3) = (own_tn c8))) (hc12 : ¬ ((p2 + p3) < p2)) (hc13 : ¬ (((p2 + p3) - p2) < (0:Int32))) (hc14 : ((p2 + p3) - p2).toNatClampNeg ≤ 6) (hc15 : ((p2 + p3) - p2) < ((own_tn c8) - p2)) (hc16 : ¬ (p2 < (0:Int32))) (hc17 : p2.toNatClampNeg + ((p2 + p3) - p2).toNatClampNeg ≤ (own_tn c8).toNatClampNeg) (hc18 : (0:Int32).toNatClampNeg + ((p2 + p3) - p2).toNatClampNeg ≤ ((p2 + p3) - p2).toNatClampNeg) :
    MFH l y18 cJ43_47 3 (some (.object "java/lang/String")) ws (rM 3 2 10 50) Z #[(.ref a1), (.int p2), (.int p3)] h0 (r18_2Q Z a1 p2 p3 k7 c8 h0 n0) := by
  refine own_inH (pq pn3) #[rv a1, iv p2, iv p3] (fun _ => by first | (simp [entryFrame, mkF, argsToLocals, Value.category]; done) | rfl) ?_
  intro p e s m below meth c s₁ Bd hx hby hml hown hnm hZ hh C0 e0 X0
  have N0 := Fr.nil n0
  obtain ⟨_, h5, X5, e5, E5, A5, D5, -, st5⟩ := newO X0 hx hZ hown (ow hw 147 rfl) (ow hw 10 rfl) (ow hw 9 rfl) e0 (g := (mkF m 7 #[rv a1, iv p2, iv p3] [])) rfl (hb hby d18_7) (by decide) (by decide)
  obtain ⟨b5, g5⟩ : ∃ z, z = h0.size := ⟨_, rfl⟩
  rw [← g5] at A5 D5 st5
  have O_E5 : Old Z n0 h5 := O0.ext E5
  have Kp_E5 : Keep h0 h5 [] := (Keep.refl h0 []).ext E5
  have c_E5 := CHr.ext E5 C0.1
  have C_E5 := C0.trans c_E5
  have f10 := (H9.ext E5)
  obtain ⟨T19, _, _, X19, hQ19, st19⟩ := cS X5 hx hZ hw hown (y := y19) 148 rfl 149 rfl 150 rfl 151 rfl (by decide) (W := 2) (r19_1 l Z a0 hw [] a1 p2 (p2 + p3) k7 c8 h5 n0 O_E5 hc6 f10 hc11 hc12 hc13 hc14 hc15 hc16 hc17 hc18) (by decide) (by decide) e5 (g := (mkF m 16 #[rv a1, iv p2, iv p3] [(.int (p2 + p3)), (.int p2), (.ref a1), (.ref b5), (.ref b5)])) rfl (by rw [hml]; rfl) (argsL := [(.ref a1), (.int p2), (.int (p2 + p3))]) (rest := [(.ref b5), (.ref b5)]) (lenOf pd10 rfl) rfl wf (hb hby d18_16) rfl (by decide) (by decide)
  obtain ⟨b19_0, k19_0, rfl, N19q, K19, lo19_1, f19_2, f19_3⟩ := hQ19
  have N19 := Fr.app N0 N19q
  have O_K19 : Old Z n0 T19.heap := O_E5.keep K19 all0
  have Kp_K19 : Keep h0 T19.heap [] := Kp_E5.trans K19 all0
  have c_K19 := CHr.keep K19 all0 C_E5.1
  have C_K19 := C_E5.trans c_K19
  have f20 : xF3 Z h5 b5 .null := D5 (Or.inr (ow hw 12 rfl)) (ty := (.array .byte)) (by decide)
  have f21 := (f20.keep K19 nin0)
  have f22 := (A5.keep K19)
  have g23 : n0 ≤ b5 := Nat.le_trans (Nat.le_trans (Nat.le_of_eq O0.1.symm) O0.2.1) (Nat.le_of_eq g5.symm)
  have f24 : xF2 Z h5 b5 (.int (0:Int32)) := D5 (Or.inr (ow hw 13 rfl)) (ty := .byte) (by decide)
  have f25 := (f24.keep K19 nin0)
  obtain ⟨T26, _, _, X26, hQ26, st26⟩ := cP X19 hx hZ hw hown (y := y22) rfl 163 rfl 99 rfl 100 rfl 9 rfl (by decide) (W := 1) (r22_1 l Z a0 hw [] b5 b19_0 T19.heap n0 O_K19 f21 f22 g23 f25) (by decide) (by decide) rfl (g := (mkF m 20 #[rv a1, iv p2, iv p3] [(.int (0:Int32)), (.ref b19_0), (.ref b5), (.ref b5)])) rfl (by rw [hml]; rfl) (argsL := [(.ref b19_0), (.int (0:Int32))]) (rest := [(.ref b5)]) (lenOf pd13 rfl) rfl wf (hb hby d18_20) rfl (by decide) (by decide)
  obtain ⟨rfl, N26q, K26, f26_1, f26_2, f26_3⟩ := hQ26
  have N26 := Fr.app N19 N26q
  have sf27 := (c_K19.safe A5.lt (Safe.ext E5 C0.1 (Safe.new (Nat.le_of_eq g5.symm))))
  have z28 : h0.size ≤ b5 := Nat.le_trans (Keep.refl h0 []).1 (Nat.le_of_eq g5.symm)
  have Kp_K26 : Keep h0 T26.heap [] := Kp_K19.trans K26 (allS (Or.inr z28) all0)
  have c_K26 := CHr.keep K26 (allS sf27 all0) C_K19.1
  have C_K26 := C_K19.trans c_K26
  have z29 : h0.size ≤ b19_0 := Nat.le_trans Kp_E5.1 lo19_1
  have ne30 : b5 ≠ b19_0 := Nat.ne_of_lt (Nat.lt_of_lt_of_le A5.lt lo19_1)
  have f31 := (f19_2.keep K26 (ninS (Ne.symm ne30) nin0))
  have f32 := (f19_3.keep K26)
  refine finH (Q := r18_2Q Z a1 p2 p3 k7 c8 h0 n0) (rm := (rM 3 2 10 50)) (vm := s.vm) Bd X26 hZ (own_EW hw) C_K26 hh rfl (State.WarmedH.since (State.WarmedH.refl s) 0) (Nat.zero_le _) (some (.ref b5)) nofun ⟨b5, b19_0, k19_0, rfl, N26, Kp_K26, z28, z29, ne30, f26_2, f26_1, f26_3, f31, f32⟩ (by decide) (by decide) fun fs hr => ?_
  show St p e below s₁ m 0 #[rv a1, iv p2, iv p3] [] _
  refine iN X0 hx hby d18_0 rfl ?_
  refine XS.ifYes X0.here hx rfl (pc0 := 1) (pc' := 7) rfl (hb hby d18_1) rfl ((if0 _ _).trans (feq hc4).2) (by decide) (by decide) ?_
  refine st5 _ ?_
  refine XS.dup X5.here hx rfl (hb hby d18_10) rfl rfl ?_
  refine aN X5 hx hby d18_11 rfl rfl ?_
  refine iN X5 hx hby d18_12 rfl ?_
  refine iN X5 hx hby d18_13 rfl ?_
  refine iN X5 hx hby d18_14 rfl ?_
  refine XS.iadd X5.here hx rfl (hb hby d18_15) rfl ?_
  refine st19 _ ?_
  refine iC X19 hx hby d18_19 ?_
  refine st26.trans ?_
  exact retA X26 hx Bd.returns rfl rfl (hb hby d18_23) hr
def r19_2Q (Z : State) (a1 : Addr) (p2 p3:Int32) (k8 : ClassId) (c9 : List Int32) (h0 : Heap) (n0 : Nat) : QT := fun v h L => ∃ (b15_0 : Addr) (k15_0 : ClassId), v = some (.ref b15_0) ∧ Fr n0 L ∧ Keep h0 h [] ∧ h0.size ≤ b15_0 ∧ Arv Z h b15_0 k15_0 .byte (p3 - p2) (own_cp (p3 - p2) (own_tb c9) p2 (p3 - p2)) (.int (0:Int32)) ∧ xE4 Z h b15_0
theorem r19_2 (l : Launch) (Z : State) (a0 : Array Value) (hw : HW a0 Z) (ws : List Jvm.Cond) (a1 : Addr) (p2 p3:Int32) (k8 : ClassId) (c9 : List Int32) (h0 : Heap) (n0 : Nat) (O0 : Old Z n0 h0) (hc4 : ¬ (p2 = (0:Int32))) (hc5 : ¬ (p3 < p2)) (hc6 : ¬ ((p3 - p2) < (0:Int32))) (hc7 : (p3 - p2).toNatClampNeg ≤ 6) (H10 : Arv Z h0 a1 k8 .byte (own_tn c9) (own_tb c9) (.int (0:Int32))) (hc11 : (p3 - p2) < ((own_tn c9) - p2)) (hc12 : ¬ (p2 < (0:Int32))) (hc13 : p2.toNatClampNeg + (p3 - p2).toNatClampNeg ≤ (own_tn c9).toNatClampNeg) (hc14 : (0:Int32).toNatClampNeg + (p3 - p2).toNatClampNeg ≤ (p3 - p2).toNatClampNeg) :
    MF l y19 cJ65_132 3 (some (.array .byte)) ws (rM 2 1 6 34) Z #[(.ref a1), (.int p2), (.int p3)] h0 (r19_2Q Z a1 p2 p3 k8 c9 h0 n0) := by
  refine own_in (pq pn4) #[rv a1, iv p2, iv p3] (fun _ => by first | (simp [entryFrame, mkF, argsToLocals, Value.category]; done) | rfl) ?_
  intro p e s m below meth c s₁ Bd hx hby hml hown hnm hZ e0 X0
  have N0 := Fr.nil n0
  obtain ⟨T15, _, _, X15, hQ15, st15⟩ := cS X0 hx hZ hw hown (y := y20) 152 rfl 153 rfl 150 rfl 154 rfl (by decide) (W := 0) (r20_1 l Z a0 hw [] a1 p2 p3 k8 c9 h0 n0 O0 hc5 hc6 hc7 H10 hc11 hc12 hc13 hc14) (by decide) (by decide) e0 (g := (mkF m 13 #[rv a1, iv p2, iv p3] [(.int p3), (.int p2), (.ref a1)])) rfl (by rw [hml]; rfl) (argsL := [(.ref a1), (.int p2), (.int p3)]) (rest := []) (lenOf pd10 rfl) rfl wf (hb hby d19_13) rfl (by decide) (by decide)
  obtain ⟨b15_0, k15_0, rfl, N15q, K15, lo15_1, f15_2, f15_3⟩ := hQ15
  have N15 := Fr.app N0 N15q
  have Kp_K15 : Keep h0 T15.heap [] := (Keep.refl h0 []).trans K15 all0
  have z16 : h0.size ≤ b15_0 := Nat.le_trans (Keep.refl h0 []).1 lo15_1
  refine fin (Q := r19_2Q Z a1 p2 p3 k8 c9 h0 n0) (rm := (rM 2 1 6 34)) Bd X15 rfl (some (.ref b15_0)) nofun ⟨b15_0, k15_0, rfl, N15, Kp_K15, z16, f15_2, f15_3⟩ (by decide) (by decide) fun fs hr => ?_
  show St p e below s₁ m 0 #[rv a1, iv p2, iv p3] [] _
  refine iN X0 hx hby d19_0 rfl ?_
  refine XS.ifYes X0.here hx rfl (pc0 := 1) (pc' := 10) rfl (hb hby d19_1) rfl ((if0 _ _).trans (feq hc4).2) (by decide) (by decide) ?_
  refine aN X0 hx hby d19_10 rfl rfl ?_
  refine iN X0 hx hby d19_11 rfl ?_
  refine iN X0 hx hby d19_12 rfl ?_
  refine st15 _ ?_
  exact retA X15 hx Bd.returns rfl rfl (hb hby d19_16) hr
def r18_3Q (Z : State) (a1 : Addr) (p2 p3:Int32) (k10 : ClassId) (c11 : List Int32) (h0 : Heap) (n0 : Nat) : QT := fun v h L => ∃ (b5 b18_0 : Addr) (k18_0 : ClassId), v = some (.ref b5) ∧ Fr n0 L ∧ Keep h0 h [] ∧ h0.size ≤ b5 ∧ h0.size ≤ b18_0 ∧ b5 ≠ b18_0 ∧ xE1 Z h b5 ∧ xF3 Z h b5 (.ref b18_0) ∧ xF2 Z h b5 (.int (0:Int32)) ∧ Arv Z h b18_0 k18_0 .byte ((p2 + p3) - p2) (own_cp ((p2 + p3) - p2) (own_tb c11) p2 ((p2 + p3) - p2)) (.int (0:Int32)) ∧ xE4 Z h b18_0
theorem r18_3 (l : Launch) (Z : State) (a0 : Array Value) (hw : HW a0 Z) (ws : List Jvm.Cond) (a1 : Addr) (p2 p3:Int32) (k10 : ClassId) (c11 : List Int32) (h0 : Heap) (n0 : Nat) (O0 : Old Z n0 h0) (hc4 : ¬ (p3 = (0:Int32))) (hc6 : ¬ (p2 = (0:Int32))) (hc7 : ¬ ((p2 + p3) < p2)) (hc8 : ¬ (((p2 + p3) - p2) < (0:Int32))) (hc9 : ((p2 + p3) - p2).toNatClampNeg ≤ 6) (H12 : Arv Z h0 a1 k10 .byte (own_tn c11) (own_tb c11) (.int (0:Int32))) (hc14 : ((p2 + p3) - p2) < ((own_tn c11) - p2)) (hc15 : ¬ (p2 < (0:Int32))) (hc16 : p2.toNatClampNeg + ((p2 + p3) - p2).toNatClampNeg ≤ (own_tn c11).toNatClampNeg) (hc17 : (0:Int32).toNatClampNeg + ((p2 + p3) - p2).toNatClampNeg ≤ ((p2 + p3) - p2).toNatClampNeg) :
    MFH l y18 cJ43_47 3 (some (.object "java/lang/String")) ws (rM 3 2 10 50) Z #[(.ref a1), (.int p2), (.int p3)] h0 (r18_3Q Z a1 p2 p3 k10 c11 h0 n0) := by
  refine own_inH (pq pn3) #[rv a1, iv p2, iv p3] (fun _ => by first | (simp [entryFrame, mkF, argsToLocals, Value.category]; done) | rfl) ?_
  intro p e s m below meth c s₁ Bd hx hby hml hown hnm hZ hh C0 e0 X0
  have N0 := Fr.nil n0
  obtain ⟨_, h5, X5, e5, E5, A5, D5, -, st5⟩ := newO X0 hx hZ hown (ow hw 147 rfl) (ow hw 10 rfl) (ow hw 9 rfl) e0 (g := (mkF m 7 #[rv a1, iv p2, iv p3] [])) rfl (hb hby d18_7) (by decide) (by decide)
  obtain ⟨b5, g5⟩ : ∃ z, z = h0.size := ⟨_, rfl⟩
  rw [← g5] at A5 D5 st5
  have O_E5 : Old Z n0 h5 := O0.ext E5
  have Kp_E5 : Keep h0 h5 [] := (Keep.refl h0 []).ext E5
  have c_E5 := CHr.ext E5 C0.1
  have C_E5 := C0.trans c_E5
  have f13 := (H12.ext E5)
  obtain ⟨T18, _, _, X18, hQ18, st18⟩ := cS X5 hx hZ hw hown (y := y19) 148 rfl 149 rfl 150 rfl 151 rfl (by decide) (W := 2) (r19_2 l Z a0 hw [] a1 p2 (p2 + p3) k10 c11 h5 n0 O_E5 hc6 hc7 hc8 hc9 f13 hc14 hc15 hc16 hc17) (by decide) (by decide) e5 (g := (mkF m 16 #[rv a1, iv p2, iv p3] [(.int (p2 + p3)), (.int p2), (.ref a1), (.ref b5), (.ref b5)])) rfl (by rw [hml]; rfl) (argsL := [(.ref a1), (.int p2), (.int (p2 + p3))]) (rest := [(.ref b5), (.ref b5)]) (lenOf pd10 rfl) rfl wf (hb hby d18_16) rfl (by decide) (by decide)
  obtain ⟨b18_0, k18_0, rfl, N18q, K18, lo18_1, f18_2, f18_3⟩ := hQ18
  have N18 := Fr.app N0 N18q
  have O_K18 : Old Z n0 T18.heap := O_E5.keep K18 all0
  have Kp_K18 : Keep h0 T18.heap [] := Kp_E5.trans K18 all0
  have c_K18 := CHr.keep K18 all0 C_E5.1
  have C_K18 := C_E5.trans c_K18
  have f19 : xF3 Z h5 b5 .null := D5 (Or.inr (ow hw 12 rfl)) (ty := (.array .byte)) (by decide)
  have f20 := (f19.keep K18 nin0)
  have f21 := (A5.keep K18)
  have g22 : n0 ≤ b5 := Nat.le_trans (Nat.le_trans (Nat.le_of_eq O0.1.symm) O0.2.1) (Nat.le_of_eq g5.symm)
  have f23 : xF2 Z h5 b5 (.int (0:Int32)) := D5 (Or.inr (ow hw 13 rfl)) (ty := .byte) (by decide)
  have f24 := (f23.keep K18 nin0)
  obtain ⟨T25, _, _, X25, hQ25, st25⟩ := cP X18 hx hZ hw hown (y := y22) rfl 163 rfl 99 rfl 100 rfl 9 rfl (by decide) (W := 1) (r22_1 l Z a0 hw [] b5 b18_0 T18.heap n0 O_K18 f20 f21 g22 f24) (by decide) (by decide) rfl (g := (mkF m 20 #[rv a1, iv p2, iv p3] [(.int (0:Int32)), (.ref b18_0), (.ref b5), (.ref b5)])) rfl (by rw [hml]; rfl) (argsL := [(.ref b18_0), (.int (0:Int32))]) (rest := [(.ref b5)]) (lenOf pd13 rfl) rfl wf (hb hby d18_20) rfl (by decide) (by decide)
  obtain ⟨rfl, N25q, K25, f25_1, f25_2, f25_3⟩ := hQ25
  have N25 := Fr.app N18 N25q
  have sf26 := (c_K18.safe A5.lt (Safe.ext E5 C0.1 (Safe.new (Nat.le_of_eq g5.symm))))
  have z27 : h0.size ≤ b5 := Nat.le_trans (Keep.refl h0 []).1 (Nat.le_of_eq g5.symm)
  have Kp_K25 : Keep h0 T25.heap [] := Kp_K18.trans K25 (allS (Or.inr z27) all0)
  have c_K25 := CHr.keep K25 (allS sf26 all0) C_K18.1
  have C_K25 := C_K18.trans c_K25
  have z28 : h0.size ≤ b18_0 := Nat.le_trans Kp_E5.1 lo18_1
  have ne29 : b5 ≠ b18_0 := Nat.ne_of_lt (Nat.lt_of_lt_of_le A5.lt lo18_1)
  have f30 := (f18_2.keep K25 (ninS (Ne.symm ne29) nin0))
  have f31 := (f18_3.keep K25)
  refine finH (Q := r18_3Q Z a1 p2 p3 k10 c11 h0 n0) (rm := (rM 3 2 10 50)) (vm := s.vm) Bd X25 hZ (own_EW hw) C_K25 hh rfl (State.WarmedH.since (State.WarmedH.refl s) 0) (Nat.zero_le _) (some (.ref b5)) nofun ⟨b5, b18_0, k18_0, rfl, N25, Kp_K25, z27, z28, ne29, f25_2, f25_1, f25_3, f30, f31⟩ (by decide) (by decide) fun fs hr => ?_
  show St p e below s₁ m 0 #[rv a1, iv p2, iv p3] [] _
  refine iN X0 hx hby d18_0 rfl ?_
  refine XS.ifYes X0.here hx rfl (pc0 := 1) (pc' := 7) rfl (hb hby d18_1) rfl ((if0 _ _).trans (feq hc4).2) (by decide) (by decide) ?_
  refine st5 _ ?_
  refine XS.dup X5.here hx rfl (hb hby d18_10) rfl rfl ?_
  refine aN X5 hx hby d18_11 rfl rfl ?_
  refine iN X5 hx hby d18_12 rfl ?_
  refine iN X5 hx hby d18_13 rfl ?_
  refine iN X5 hx hby d18_14 rfl ?_
  refine XS.iadd X5.here hx rfl (hb hby d18_15) rfl ?_
  refine st18 _ ?_
  refine iC X18 hx hby d18_19 ?_
  refine st25.trans ?_
  exact retA X25 hx Bd.returns rfl rfl (hb hby d18_23) hr
def r12_3Q (Z : State) (p1 p2:Int32) (h0 : Heap) (n0 : Nat) : QT := fun v h L => v = some (.int p1) ∧ Fr n0 L ∧ h = h0
theorem r12_3 (l : Launch) (Z : State) (a0 : Array Value) (hw : HW a0 Z) (ws : List Jvm.Cond) (p1 p2:Int32) (h0 : Heap) (n0 : Nat) (O0 : Old Z n0 h0) (hc3 : ¬ (p2 < p1)) :
    MF l y12 cJ29_69 2 (some .int) ws (rM 0 0 0 0) Z #[(.int p1), (.int p2)] h0 (r12_3Q Z p1 p2 h0 n0) := by
  refine own_in (Jvm.Free.JP.mathPlain rfl (by decide +kernel)) #[iv p1, iv p2] (fun _ => by first | (simp [entryFrame, mkF, argsToLocals, Value.category]; done) | rfl) ?_
  intro p e s m below meth c s₁ Bd hx hby hml hown hnm hZ e0 X0
  have N0 := Fr.nil n0
  refine fin (Q := r12_3Q Z p1 p2 h0 n0) (rm := (rM 0 0 0 0)) Bd X0 e0 (some (.int p1)) nofun ⟨rfl, N0, rfl⟩ (by decide) (by decide) fun fs hr => ?_
  show St p e below s₁ m 0 #[iv p1, iv p2] [] _
  refine iN X0 hx hby d12_0 rfl ?_
  refine iN X0 hx hby d12_1 rfl ?_
  refine XS.icmpNo X0.here hx rfl (hb hby d12_2) rfl (flt hc3).2.2.1 ?_
  refine iN X0 hx hby d12_5 rfl ?_
  refine XS.goto X0.here hx rfl (pc0 := 6) (pc' := 10) rfl (hb hby d12_6) (by decide) (by decide) ?_
  exact retI X0 hx Bd.returns (hb hby d12_10) hr
def r20_2Q (Z : State) (a1 : Addr) (p2 p3:Int32) (k10 : ClassId) (c11 : List Int32) (h0 : Heap) (n0 : Nat) : QT := fun v h L => ∃ (b6 : Addr) (k6 : ClassId), v = some (.ref b6) ∧ Fr n0 L ∧ Keep h0 h [] ∧ h0.size ≤ b6 ∧ Arv Z h b6 k6 .byte (p3 - p2) (own_cp (p3 - p2) (own_tb c11) p2 ((own_tn c11) - p2)) (.int (0:Int32)) ∧ xE4 Z h b6
theorem r20_2 (l : Launch) (Z : State) (a0 : Array Value) (hw : HW a0 Z) (ws : List Jvm.Cond) (a1 : Addr) (p2 p3:Int32) (k10 : ClassId) (c11 : List Int32) (h0 : Heap) (n0 : Nat) (O0 : Old Z n0 h0) (hc4 : ¬ (p3 < p2)) (hc7 : ¬ ((p3 - p2) < (0:Int32))) (hc8 : (p3 - p2).toNatClampNeg ≤ 6) (H12 : Arv Z h0 a1 k10 .byte (own_tn c11) (own_tb c11) (.int (0:Int32))) (hc14 : ¬ ((p3 - p2) < ((own_tn c11) - p2))) (hc17 : ¬ (p2 < (0:Int32))) (hc18 : ¬ (((own_tn c11) - p2) < (0:Int32))) (hc19 : p2.toNatClampNeg + ((own_tn c11) - p2).toNatClampNeg ≤ (own_tn c11).toNatClampNeg) (hc20 : (0:Int32).toNatClampNeg + ((own_tn c11) - p2).toNatClampNeg ≤ (p3 - p2).toNatClampNeg) :
    MF l y20 cJ65_133 5 (some (.array .byte)) ws (rM 1 1 6 18) Z #[(.ref a1), (.int p2), (.int p3)] h0 (r20_2Q Z a1 p2 p3 k10 c11 h0 n0) := by
  refine own_in (pq pn4) #[rv a1, iv p2, iv p3, un, un] (fun _ => by first | (simp [entryFrame, mkF, argsToLocals, Value.category]; done) | rfl) ?_
  intro p e s m below meth c s₁ Bd hx hby hml hown hnm hZ e0 X0
  have N0 := Fr.nil n0
  obtain ⟨_, _, _, X5, hQ5, st5⟩ := cS X0 hx hZ hw hown (y := y21) 155 rfl 156 rfl 150 rfl 157 rfl (by decide) (W := 0) (r21_1 l Z a0 hw [] p2 p3 h0 n0 O0 hc4) (by decide) (by decide) e0 (g := (mkF m 2 #[rv a1, iv p2, iv p3, un, un] [(.int p3), (.int p2)])) rfl (by rw [hml]; rfl) (argsL := [(.int p2), (.int p3)]) (rest := []) (lenOf pd15 rfl) rfl wf (hb hby d20_2) rfl (by decide) (by decide)
  obtain ⟨rfl, N5q, e5⟩ := hQ5
  have N5 := Fr.app N0 N5q
  obtain ⟨_, h6, k6, X6, e6, E6, A6, C6, st6⟩ := newPE X5 hx hZ (aty := .byte) (ow hw 11 rfl) e5 (g := (mkF m 10 #[rv a1, iv p2, iv p3, iv (p3 - p2), un] [(.int (p3 - p2))])) rfl (hb hby d20_10) rfl hc7 (cap := 6) hc8 (by decide) (by decide) (by decide) (ad := "[B") (by decide)
  obtain ⟨b6, g6⟩ : ∃ z, z = h0.size := ⟨_, rfl⟩
  rw [← g6] at A6 C6 st6
  have O_E6 : Old Z n0 h6 := O0.ext E6
  have Kp_E6 : Keep h0 h6 [] := (Keep.refl h0 []).ext E6
  have V6 : Arv Z h6 b6 k6 .byte (p3 - p2) (List.replicate (p3 - p2).toNatClampNeg (.int (0:Int32))) (.int (0:Int32)) := (Arv.new A6 hc7).pad (pad_rep [] _ _)
  have f13 := (H12.ext E6)
  obtain ⟨_, Ar9, _, S9, M9, _, _⟩ := id f13
  obtain ⟨_, _, _, X15, hQ15, st15⟩ := cS X6 hx hZ hw hown (y := y12) 158 rfl 63 rfl 60 rfl 64 rfl (by decide) (W := 4) (r12_3 l Z a0 hw [] ((own_tn c11) - p2) (p3 - p2) h6 n0 O_E6 hc14) (by decide) (by decide) e6 (g := (mkF m 24 #[rv a1, iv p2, iv p3, iv (p3 - p2), rv b6] [(.int (p3 - p2)), (.int ((own_tn c11) - p2)), (.int (0:Int32)), (.ref b6), (.int p2), (.ref a1)])) rfl (by rw [hml]; rfl) (argsL := [(.int ((own_tn c11) - p2)), (.int (p3 - p2))]) (rest := [(.int (0:Int32)), (.ref b6), (.int p2), (.ref a1)]) (lenOf pd14 rfl) rfl wf (hb hby d20_24) rfl (by decide) (by decide)
  obtain ⟨rfl, N15q, e15⟩ := hQ15
  have N15 := Fr.app N5 N15q
  have g21 : n0 ≤ b6 := Nat.le_trans (Nat.le_trans (Nat.le_of_eq O0.1.symm) O0.2.1) (Nat.le_of_eq g6.symm)
  obtain ⟨_, h16, _, X16, e16, N16, K16, V16, st16⟩ := cpA X15 hx hZ hown (ow hw 159 rfl) (ow hw 162 rfl) (ow hw 160 rfl) (ow hw 161 rfl) e15 f13 V6 (Or.inl ⟨rfl, rfl⟩) hc17 (by decide) hc18 hc19 hc20 rfl (by rw [List.length_replicate]; exact hc20) N15 g21 (g := (mkF m 27 #[rv a1, iv p2, iv p3, iv (p3 - p2), rv b6] [(.int ((own_tn c11) - p2)), (.int (0:Int32)), (.ref b6), (.int p2), (.ref a1)])) rfl (by rw [hml]; rfl) rfl (hb hby d20_27) (by decide) (W := 0) wf (by decide)
  have z22 : h0.size ≤ b6 := Nat.le_trans (Keep.refl h0 []).1 (Nat.le_of_eq g6.symm)
  have Kp_K16 : Keep h0 h16 [] := Kp_E6.trans K16 (allS (Or.inr z22) all0)
  have f23 : Arv Z h16 b6 k6 .byte (p3 - p2) (own_cp (p3 - p2) (own_tb c11) p2 ((own_tn c11) - p2)) (.int (0:Int32)) := V16
  have f24 := (C6.keep K16)
  refine fin (Q := r20_2Q Z a1 p2 p3 k10 c11 h0 n0) (rm := (rM 1 1 6 18)) Bd X16 e16 (some (.ref b6)) nofun ⟨b6, k6, rfl, N16, Kp_K16, z22, f23, f24⟩ (by decide) (by decide) fun fs hr => ?_
  show St p e below s₁ m 0 #[rv a1, iv p2, iv p3, un, un] [] _
  refine iN X0 hx hby d20_0 rfl ?_
  refine iN X0 hx hby d20_1 rfl ?_
  refine st5 _ ?_
  refine iN X5 hx hby d20_5 rfl ?_
  refine iN X5 hx hby d20_6 rfl ?_
  refine XS.isub X5.here hx rfl (hb hby d20_7) rfl ?_
  refine XS.istoreN X5.here hx rfl (hb hby d20_8) rfl (l' := #[rv a1, iv p2, iv p3, iv (p3 - p2), un]) rfl ?_
  refine iN X5 hx hby d20_9 rfl ?_
  refine st6 _ ?_
  refine XS.astore X6.here hx rfl (hb hby d20_12) rfl rfl (l' := #[rv a1, iv p2, iv p3, iv (p3 - p2), rv b6]) rfl ?_
  refine aN X6 hx hby d20_14 rfl rfl ?_
  refine iN X6 hx hby d20_15 rfl ?_
  refine aL X6 hx hby d20_16 rfl rfl ?_
  refine iC X6 hx hby d20_18 ?_
  refine aN X6 hx hby d20_19 rfl rfl ?_
  refine X6.arraylength hx (by rw [e6]; exact Ar9.1) (State.isArrayOf_alike hZ.alike Ar9.2.1) (g := (mkF m 20 #[rv a1, iv p2, iv p3, iv (p3 - p2), rv b6] [(.ref a1), (.int (0:Int32)), (.ref b6), (.int p2), (.ref a1)])) rfl rfl (hb hby d20_20) _ ?_
  rw [len_of S9 M9]
  refine iN X6 hx hby d20_21 rfl ?_
  refine XS.isub X6.here hx rfl (hb hby d20_22) rfl ?_
  refine iN X6 hx hby d20_23 rfl ?_
  refine st15 _ ?_
  refine st16 _ ?_
  refine aL X16 hx hby d20_30 rfl rfl ?_
  exact retA X16 hx Bd.returns rfl rfl (hb hby d20_32) hr
def r19_3Q (Z : State) (a1 : Addr) (p2 p3:Int32) (k8 : ClassId) (c9 : List Int32) (h0 : Heap) (n0 : Nat) : QT := fun v h L => ∃ (b16_0 : Addr) (k16_0 : ClassId), v = some (.ref b16_0) ∧ Fr n0 L ∧ Keep h0 h [] ∧ h0.size ≤ b16_0 ∧ Arv Z h b16_0 k16_0 .byte (p3 - p2) (own_cp (p3 - p2) (own_tb c9) p2 ((own_tn c9) - p2)) (.int (0:Int32)) ∧ xE4 Z h b16_0
theorem r19_3 (l : Launch) (Z : State) (a0 : Array Value) (hw : HW a0 Z) (ws : List Jvm.Cond) (a1 : Addr) (p2 p3:Int32) (k8 : ClassId) (c9 : List Int32) (h0 : Heap) (n0 : Nat) (O0 : Old Z n0 h0) (hc4 : ¬ (p2 = (0:Int32))) (hc5 : ¬ (p3 < p2)) (hc6 : ¬ ((p3 - p2) < (0:Int32))) (hc7 : (p3 - p2).toNatClampNeg ≤ 6) (H10 : Arv Z h0 a1 k8 .byte (own_tn c9) (own_tb c9) (.int (0:Int32))) (hc11 : ¬ ((p3 - p2) < ((own_tn c9) - p2))) (hc12 : ¬ (p2 < (0:Int32))) (hc13 : ¬ (((own_tn c9) - p2) < (0:Int32))) (hc14 : p2.toNatClampNeg + ((own_tn c9) - p2).toNatClampNeg ≤ (own_tn c9).toNatClampNeg) (hc15 : (0:Int32).toNatClampNeg + ((own_tn c9) - p2).toNatClampNeg ≤ (p3 - p2).toNatClampNeg) :
    MF l y19 cJ65_132 3 (some (.array .byte)) ws (rM 2 1 6 34) Z #[(.ref a1), (.int p2), (.int p3)] h0 (r19_3Q Z a1 p2 p3 k8 c9 h0 n0) := by
  refine own_in (pq pn4) #[rv a1, iv p2, iv p3] (fun _ => by first | (simp [entryFrame, mkF, argsToLocals, Value.category]; done) | rfl) ?_
  intro p e s m below meth c s₁ Bd hx hby hml hown hnm hZ e0 X0
  have N0 := Fr.nil n0
  obtain ⟨T16, _, _, X16, hQ16, st16⟩ := cS X0 hx hZ hw hown (y := y20) 152 rfl 153 rfl 150 rfl 154 rfl (by decide) (W := 0) (r20_2 l Z a0 hw [] a1 p2 p3 k8 c9 h0 n0 O0 hc5 hc6 hc7 H10 hc11 hc12 hc13 hc14 hc15) (by decide) (by decide) e0 (g := (mkF m 13 #[rv a1, iv p2, iv p3] [(.int p3), (.int p2), (.ref a1)])) rfl (by rw [hml]; rfl) (argsL := [(.ref a1), (.int p2), (.int p3)]) (rest := []) (lenOf pd10 rfl) rfl wf (hb hby d19_13) rfl (by decide) (by decide)
  obtain ⟨b16_0, k16_0, rfl, N16q, K16, lo16_1, f16_2, f16_3⟩ := hQ16
  have N16 := Fr.app N0 N16q
  have Kp_K16 : Keep h0 T16.heap [] := (Keep.refl h0 []).trans K16 all0
  have z17 : h0.size ≤ b16_0 := Nat.le_trans (Keep.refl h0 []).1 lo16_1
  refine fin (Q := r19_3Q Z a1 p2 p3 k8 c9 h0 n0) (rm := (rM 2 1 6 34)) Bd X16 rfl (some (.ref b16_0)) nofun ⟨b16_0, k16_0, rfl, N16, Kp_K16, z17, f16_2, f16_3⟩ (by decide) (by decide) fun fs hr => ?_
  show St p e below s₁ m 0 #[rv a1, iv p2, iv p3] [] _
  refine iN X0 hx hby d19_0 rfl ?_
  refine XS.ifYes X0.here hx rfl (pc0 := 1) (pc' := 10) rfl (hb hby d19_1) rfl ((if0 _ _).trans (feq hc4).2) (by decide) (by decide) ?_
  refine aN X0 hx hby d19_10 rfl rfl ?_
  refine iN X0 hx hby d19_11 rfl ?_
  refine iN X0 hx hby d19_12 rfl ?_
  refine st16 _ ?_
  exact retA X16 hx Bd.returns rfl rfl (hb hby d19_16) hr
def r18_4Q (Z : State) (a1 : Addr) (p2 p3:Int32) (k10 : ClassId) (c11 : List Int32) (h0 : Heap) (n0 : Nat) : QT := fun v h L => ∃ (b5 b19_0 : Addr) (k19_0 : ClassId), v = some (.ref b5) ∧ Fr n0 L ∧ Keep h0 h [] ∧ h0.size ≤ b5 ∧ h0.size ≤ b19_0 ∧ b5 ≠ b19_0 ∧ xE1 Z h b5 ∧ xF3 Z h b5 (.ref b19_0) ∧ xF2 Z h b5 (.int (0:Int32)) ∧ Arv Z h b19_0 k19_0 .byte ((p2 + p3) - p2) (own_cp ((p2 + p3) - p2) (own_tb c11) p2 ((own_tn c11) - p2)) (.int (0:Int32)) ∧ xE4 Z h b19_0
theorem r18_4 (l : Launch) (Z : State) (a0 : Array Value) (hw : HW a0 Z) (ws : List Jvm.Cond) (a1 : Addr) (p2 p3:Int32) (k10 : ClassId) (c11 : List Int32) (h0 : Heap) (n0 : Nat) (O0 : Old Z n0 h0) (hc4 : ¬ (p3 = (0:Int32))) (hc6 : ¬ (p2 = (0:Int32))) (hc7 : ¬ ((p2 + p3) < p2)) (hc8 : ¬ (((p2 + p3) - p2) < (0:Int32))) (hc9 : ((p2 + p3) - p2).toNatClampNeg ≤ 6) (H12 : Arv Z h0 a1 k10 .byte (own_tn c11) (own_tb c11) (.int (0:Int32))) (hc14 : ¬ (((p2 + p3) - p2) < ((own_tn c11) - p2))) (hc15 : ¬ (p2 < (0:Int32))) (hc16 : ¬ (((own_tn c11) - p2) < (0:Int32))) (hc17 : p2.toNatClampNeg + ((own_tn c11) - p2).toNatClampNeg ≤ (own_tn c11).toNatClampNeg) (hc18 : (0:Int32).toNatClampNeg + ((own_tn c11) - p2).toNatClampNeg ≤ ((p2 + p3) - p2).toNatClampNeg) :
    MFH l y18 cJ43_47 3 (some (.object "java/lang/String")) ws (rM 3 2 10 50) Z #[(.ref a1), (.int p2), (.int p3)] h0 (r18_4Q Z a1 p2 p3 k10 c11 h0 n0) := by
  refine own_inH (pq pn3) #[rv a1, iv p2, iv p3] (fun _ => by first | (simp [entryFrame, mkF, argsToLocals, Value.category]; done) | rfl) ?_
  intro p e s m below meth c s₁ Bd hx hby hml hown hnm hZ hh C0 e0 X0
  have N0 := Fr.nil n0
  obtain ⟨_, h5, X5, e5, E5, A5, D5, -, st5⟩ := newO X0 hx hZ hown (ow hw 147 rfl) (ow hw 10 rfl) (ow hw 9 rfl) e0 (g := (mkF m 7 #[rv a1, iv p2, iv p3] [])) rfl (hb hby d18_7) (by decide) (by decide)
  obtain ⟨b5, g5⟩ : ∃ z, z = h0.size := ⟨_, rfl⟩
  rw [← g5] at A5 D5 st5
  have O_E5 : Old Z n0 h5 := O0.ext E5
  have Kp_E5 : Keep h0 h5 [] := (Keep.refl h0 []).ext E5
  have c_E5 := CHr.ext E5 C0.1
  have C_E5 := C0.trans c_E5
  have f13 := (H12.ext E5)
  obtain ⟨T19, _, _, X19, hQ19, st19⟩ := cS X5 hx hZ hw hown (y := y19) 148 rfl 149 rfl 150 rfl 151 rfl (by decide) (W := 2) (r19_3 l Z a0 hw [] a1 p2 (p2 + p3) k10 c11 h5 n0 O_E5 hc6 hc7 hc8 hc9 f13 hc14 hc15 hc16 hc17 hc18) (by decide) (by decide) e5 (g := (mkF m 16 #[rv a1, iv p2, iv p3] [(.int (p2 + p3)), (.int p2), (.ref a1), (.ref b5), (.ref b5)])) rfl (by rw [hml]; rfl) (argsL := [(.ref a1), (.int p2), (.int (p2 + p3))]) (rest := [(.ref b5), (.ref b5)]) (lenOf pd10 rfl) rfl wf (hb hby d18_16) rfl (by decide) (by decide)
  obtain ⟨b19_0, k19_0, rfl, N19q, K19, lo19_1, f19_2, f19_3⟩ := hQ19
  have N19 := Fr.app N0 N19q
  have O_K19 : Old Z n0 T19.heap := O_E5.keep K19 all0
  have Kp_K19 : Keep h0 T19.heap [] := Kp_E5.trans K19 all0
  have c_K19 := CHr.keep K19 all0 C_E5.1
  have C_K19 := C_E5.trans c_K19
  have f20 : xF3 Z h5 b5 .null := D5 (Or.inr (ow hw 12 rfl)) (ty := (.array .byte)) (by decide)
  have f21 := (f20.keep K19 nin0)
  have f22 := (A5.keep K19)
  have g23 : n0 ≤ b5 := Nat.le_trans (Nat.le_trans (Nat.le_of_eq O0.1.symm) O0.2.1) (Nat.le_of_eq g5.symm)
  have f24 : xF2 Z h5 b5 (.int (0:Int32)) := D5 (Or.inr (ow hw 13 rfl)) (ty := .byte) (by decide)
  have f25 := (f24.keep K19 nin0)
  obtain ⟨T26, _, _, X26, hQ26, st26⟩ := cP X19 hx hZ hw hown (y := y22) rfl 163 rfl 99 rfl 100 rfl 9 rfl (by decide) (W := 1) (r22_1 l Z a0 hw [] b5 b19_0 T19.heap n0 O_K19 f21 f22 g23 f25) (by decide) (by decide) rfl (g := (mkF m 20 #[rv a1, iv p2, iv p3] [(.int (0:Int32)), (.ref b19_0), (.ref b5), (.ref b5)])) rfl (by rw [hml]; rfl) (argsL := [(.ref b19_0), (.int (0:Int32))]) (rest := [(.ref b5)]) (lenOf pd13 rfl) rfl wf (hb hby d18_20) rfl (by decide) (by decide)
  obtain ⟨rfl, N26q, K26, f26_1, f26_2, f26_3⟩ := hQ26
  have N26 := Fr.app N19 N26q
  have sf27 := (c_K19.safe A5.lt (Safe.ext E5 C0.1 (Safe.new (Nat.le_of_eq g5.symm))))
  have z28 : h0.size ≤ b5 := Nat.le_trans (Keep.refl h0 []).1 (Nat.le_of_eq g5.symm)
  have Kp_K26 : Keep h0 T26.heap [] := Kp_K19.trans K26 (allS (Or.inr z28) all0)
  have c_K26 := CHr.keep K26 (allS sf27 all0) C_K19.1
  have C_K26 := C_K19.trans c_K26
  have z29 : h0.size ≤ b19_0 := Nat.le_trans Kp_E5.1 lo19_1
  have ne30 : b5 ≠ b19_0 := Nat.ne_of_lt (Nat.lt_of_lt_of_le A5.lt lo19_1)
  have f31 := (f19_2.keep K26 (ninS (Ne.symm ne30) nin0))
  have f32 := (f19_3.keep K26)
  refine finH (Q := r18_4Q Z a1 p2 p3 k10 c11 h0 n0) (rm := (rM 3 2 10 50)) (vm := s.vm) Bd X26 hZ (own_EW hw) C_K26 hh rfl (State.WarmedH.since (State.WarmedH.refl s) 0) (Nat.zero_le _) (some (.ref b5)) nofun ⟨b5, b19_0, k19_0, rfl, N26, Kp_K26, z28, z29, ne30, f26_2, f26_1, f26_3, f31, f32⟩ (by decide) (by decide) fun fs hr => ?_
  show St p e below s₁ m 0 #[rv a1, iv p2, iv p3] [] _
  refine iN X0 hx hby d18_0 rfl ?_
  refine XS.ifYes X0.here hx rfl (pc0 := 1) (pc' := 7) rfl (hb hby d18_1) rfl ((if0 _ _).trans (feq hc4).2) (by decide) (by decide) ?_
  refine st5 _ ?_
  refine XS.dup X5.here hx rfl (hb hby d18_10) rfl rfl ?_
  refine aN X5 hx hby d18_11 rfl rfl ?_
  refine iN X5 hx hby d18_12 rfl ?_
  refine iN X5 hx hby d18_13 rfl ?_
  refine iN X5 hx hby d18_14 rfl ?_
  refine XS.iadd X5.here hx rfl (hb hby d18_15) rfl ?_
  refine st19 _ ?_
  refine iC X19 hx hby d18_19 ?_
  refine st26.trans ?_
  exact retA X26 hx Bd.returns rfl rfl (hb hby d18_23) hr
abbrev y15 : MethodName := ⟨"java/lang/String", "substring", "(II)Ljava/lang/String;"⟩
def r15_1Q (Z : State) (a1 : Addr) (p2 p3:Int32) (a6 : Addr) (k8 : ClassId) (c9 : List Int32) (p11:Int32) (k16 : Value) (h0 : Heap) (n0 : Nat) : QT := fun v h L => own_strQ Z (own_sub c9 p2 p3) h0 n0 v h L
theorem r15_1 (l : Launch) (Z : State) (a0 : Array Value) (hw : HW a0 Z) (ws : List Jvm.Cond) (a1 : Addr) (p2 p3:Int32) (a6 : Addr) (k8 : ClassId) (c9 : List Int32) (p11:Int32) (k16 : Value) (h0 : Heap) (n0 : Nat) (O0 : Old Z n0 h0) (H4 : xE1 Z h0 a1) (H5 : xF2 Z h0 a1 (.int (0:Int32))) (H7 : xF3 Z h0 a1 (.ref a6)) (H10 : Arv Z h0 a6 k8 .byte (own_tn c9) (own_tb c9) (.int (0:Int32))) (H12 : Sta Z Z.heap "java/lang/String" "COMPACT_STRINGS" "Z" (.int p11)) (hc13 : ¬ (p11 = (0:Int32))) (H14 : own_GT c9) (H17 : Sta Z Z.heap "jdk/internal/util/Preconditions" "SIOOBE_FORMATTER" "Ljava/util/function/BiFunction;" k16) (H18 : k16.isRef = true) (hc19 : ¬ (p2 < (0:Int32))) (hc20 : ¬ (p3 < p2)) (hc21 : ¬ ((own_tn c9) < p3)) (hc23 : p2 = (0:Int32)) (hc24 : p3 = (own_tn c9)) (H25 : (own_tn c9) = own_tn (own_sub c9 p2 p3)) (H26 : (own_tb c9) = own_tb (own_sub c9 p2 p3)) :
    MFH l y15 cJ42_92 5 (some (.object "java/lang/String")) ws (rM 4 2 10 64) Z #[(.ref a1), (.int p2), (.int p3)] h0 (r15_1Q Z a1 p2 p3 a6 k8 c9 p11 k16 h0 n0) := by
  refine own_inH (pq pn5) #[rv a1, iv p2, iv p3, un, un] (fun _ => by first | (simp [entryFrame, mkF, argsToLocals, Value.category]; done) | rfl) ?_
  intro p e s m below meth c s₁ Bd hx hby hml hown hnm hZ hh C0 e0 X0
  have N0 := Fr.nil n0
  obtain ⟨_, _, q15a, _, q15c⟩ := isOf hZ e0 H4
  obtain ⟨_, _, _, X15, hQ15, st15⟩ := fl X0 (X0.virtualBack hx (y := y8) (z := y8) hown (mo hZ hw 41 rfl) (mo hZ hw 42 rfl) (notFace_of_selects (args := #[]) (mo hZ hw 44 rfl)) (mo hZ hw 44 rfl) (mo hZ hw 43 rfl) (by decide) (own_lenB (W := 0) n0 hZ hw (ow hw 10 rfl) H4 H7 H5 H10 H14 (H12.ext O0.2) hc13 (by decide) (by decide)) q15a q15c (g := (mkF m 1 #[rv a1, iv p2, iv p3, un, un] [(.ref a1)])) rfl (by rw [hml]; rfl) (Steps.refl _) (argsL := []) (rest := []) (lenOf pd23 rfl) rfl wf (hb hby d15_1) (fun _ _ => ⟨rfl, e0, (by decide : 0 + 0 ≤ _), (by decide : 0 + 0 ≤ _)⟩))
  obtain ⟨rfl, N15q, e15⟩ := hQ15
  have N15 := Fr.app N0 N15q
  obtain ⟨_, _, _, X22, hQ22, st22⟩ := cS X15 hx hZ hw hown (y := y16) 77 rfl 78 rfl 9 rfl 79 rfl (by decide) (W := 0) (own_cbe l Z a0 hw [] p2 p3 (own_tn c9) k16 h0 n0 O0 H17 H18 hc19 hc20 hc21) (by decide) (by decide) e15 (g := (mkF m 8 #[rv a1, iv p2, iv p3, iv (own_tn c9), un] [(.int (own_tn c9)), (.int p3), (.int p2)])) rfl (by rw [hml]; rfl) (argsL := [(.int p2), (.int p3), (.int (own_tn c9))]) (rest := []) (lenOf pd12 rfl) rfl wf (hb hby d15_8) rfl (by decide) (by decide)
  obtain ⟨rfl, N22q, e22⟩ := hQ22
  have N22 := Fr.app N15 N22q
  refine finH (Q := r15_1Q Z a1 p2 p3 a6 k8 c9 p11 k16 h0 n0) (rm := (rM 4 2 10 64)) (vm := s.vm) Bd X22 hZ (own_EW hw) C0 hh e22 (State.WarmedH.since (State.WarmedH.refl s) 0) (Nat.zero_le _) (some (.ref a1)) nofun ⟨a1, a6, k8, rfl, N22, (Keep.refl h0 []), H4, H7, H5, own_cast H25 H26 H10⟩ (by decide) (by decide) fun fs hr => ?_
  show St p e below s₁ m 0 #[rv a1, iv p2, iv p3, un, un] [] _
  refine aN X0 hx hby d15_0 rfl rfl ?_
  refine st15.trans ?_
  refine XS.istoreN X15.here hx rfl (hb hby d15_4) rfl (l' := #[rv a1, iv p2, iv p3, iv (own_tn c9), un]) rfl ?_
  refine iN X15 hx hby d15_5 rfl ?_
  refine iN X15 hx hby d15_6 rfl ?_
  refine iN X15 hx hby d15_7 rfl ?_
  refine st22 _ ?_
  refine iN X22 hx hby d15_11 rfl ?_
  refine XS.ifNo X22.here hx rfl (hb hby d15_12) rfl ((if0 _ _).trans (teq hc23).2) ?_
  refine iN X22 hx hby d15_15 rfl ?_
  refine iN X22 hx hby d15_16 rfl ?_
  refine XS.icmpNo X22.here hx rfl (hb hby d15_17) rfl (teq hc24).2 ?_
  refine aN X22 hx hby d15_20 rfl rfl ?_
  exact retA X22 hx Bd.returns rfl rfl (hb hby d15_21) hr
def r15_2Q (Z : State) (a1 : Addr) (p2 p3:Int32) (a6 : Addr) (k8 : ClassId) (c9 : List Int32) (p11:Int32) (k16 : Value) (h0 : Heap) (n0 : Nat) : QT := fun v h L => own_strQ Z (own_sub c9 p2 p3) h0 n0 v h L
theorem r15_2 (l : Launch) (Z : State) (a0 : Array Value) (hw : HW a0 Z) (ws : List Jvm.Cond) (a1 : Addr) (p2 p3:Int32) (a6 : Addr) (k8 : ClassId) (c9 : List Int32) (p11:Int32) (k16 : Value) (h0 : Heap) (n0 : Nat) (O0 : Old Z n0 h0) (H4 : xE1 Z h0 a1) (H5 : xF2 Z h0 a1 (.int (0:Int32))) (H7 : xF3 Z h0 a1 (.ref a6)) (H10 : Arv Z h0 a6 k8 .byte (own_tn c9) (own_tb c9) (.int (0:Int32))) (H12 : Sta Z Z.heap "java/lang/String" "COMPACT_STRINGS" "Z" (.int p11)) (hc13 : ¬ (p11 = (0:Int32))) (H14 : own_GT c9) (H17 : Sta Z Z.heap "jdk/internal/util/Preconditions" "SIOOBE_FORMATTER" "Ljava/util/function/BiFunction;" k16) (H18 : k16.isRef = true) (hc19 : ¬ (p2 < (0:Int32))) (hc20 : ¬ (p3 < p2)) (hc21 : ¬ ((own_tn c9) < p3)) (hc23 : ¬ (p2 = (0:Int32))) (hc26 : (p3 - p2) = (0:Int32)) (H30 : (own_tn []) = own_tn (own_sub c9 p2 p3)) (H31 : (own_tb []) = own_tb (own_sub c9 p2 p3)) :
    MFH l y15 cJ42_92 5 (some (.object "java/lang/String")) ws (rM 4 2 10 64) Z #[(.ref a1), (.int p2), (.int p3)] h0 (r15_2Q Z a1 p2 p3 a6 k8 c9 p11 k16 h0 n0) := by
  refine own_inH (pq pn5) #[rv a1, iv p2, iv p3, un, un] (fun _ => by first | (simp [entryFrame, mkF, argsToLocals, Value.category]; done) | rfl) ?_
  intro p e s m below meth c s₁ Bd hx hby hml hown hnm hZ hh C0 e0 X0
  have N0 := Fr.nil n0
  obtain ⟨_, _, q15a, _, q15c⟩ := isOf hZ e0 H4
  obtain ⟨_, _, _, X15, hQ15, st15⟩ := fl X0 (X0.virtualBack hx (y := y8) (z := y8) hown (mo hZ hw 41 rfl) (mo hZ hw 42 rfl) (notFace_of_selects (args := #[]) (mo hZ hw 44 rfl)) (mo hZ hw 44 rfl) (mo hZ hw 43 rfl) (by decide) (own_lenB (W := 0) n0 hZ hw (ow hw 10 rfl) H4 H7 H5 H10 H14 (H12.ext O0.2) hc13 (by decide) (by decide)) q15a q15c (g := (mkF m 1 #[rv a1, iv p2, iv p3, un, un] [(.ref a1)])) rfl (by rw [hml]; rfl) (Steps.refl _) (argsL := []) (rest := []) (lenOf pd23 rfl) rfl wf (hb hby d15_1) (fun _ _ => ⟨rfl, e0, (by decide : 0 + 0 ≤ _), (by decide : 0 + 0 ≤ _)⟩))
  obtain ⟨rfl, N15q, e15⟩ := hQ15
  have N15 := Fr.app N0 N15q
  obtain ⟨_, _, _, X22, hQ22, st22⟩ := cS X15 hx hZ hw hown (y := y16) 77 rfl 78 rfl 9 rfl 79 rfl (by decide) (W := 0) (own_cbe l Z a0 hw [] p2 p3 (own_tn c9) k16 h0 n0 O0 H17 H18 hc19 hc20 hc21) (by decide) (by decide) e15 (g := (mkF m 8 #[rv a1, iv p2, iv p3, iv (own_tn c9), un] [(.int (own_tn c9)), (.int p3), (.int p2)])) rfl (by rw [hml]; rfl) (argsL := [(.int p2), (.int p3), (.int (own_tn c9))]) (rest := []) (lenOf pd12 rfl) rfl wf (hb hby d15_8) rfl (by decide) (by decide)
  obtain ⟨rfl, N22q, e22⟩ := hQ22
  have N22 := Fr.app N15 N22q
  obtain ⟨_, _, _, X24, hQ24, st24⟩ := cV X22 hx hZ hw hown (y := y7) 33 rfl 34 rfl 36 rfl 35 rfl 37 rfl 9 rfl (by decide) (W := 0) (r7_1 l Z a0 hw [] a1 p11 h0 n0 O0 H12 hc13 H5) (by decide) (by decide) H4 e22 (g := (mkF m 28 #[rv a1, iv p2, iv p3, iv (own_tn c9), iv (p3 - p2)] [(.ref a1)])) rfl (by rw [hml]; rfl) (argsL := []) (rest := []) (lenOf pd22 rfl) rfl wf (hb hby d15_28) rfl (by decide) (by decide)
  obtain ⟨rfl, N24q, e24⟩ := hQ24
  have N24 := Fr.app N22 N24q
  obtain ⟨_, X25, e25, st25⟩ := gF X24 hx hZ hown (ow hw 40 rfl) e24 H7 (g := (mkF m 35 #[rv a1, iv p2, iv p3, iv (own_tn c9), iv (p3 - p2)] [(.ref a1)])) rfl rfl (hb hby d15_35)
  obtain ⟨T27, _, _, X27, hSq27, hg27, Cq27, hQ27, st27⟩ := flH X25 (Jvm.RoadKit.callSS X25 hx (y := y18) hown (mo hZ hw 126 rfl) (mo hZ hw 127 rfl) (mo hZ hw 53 rfl) (mo hZ hw 128 rfl) (by decide) (backOfSH (s := s) (vm0 := s.vm) (W := 0) (r18_1 l Z a0 hw [] a6 p2 (p3 - p2) h0 n0 O0 hc26) hZ (ow hw 128 rfl) (ow hw 53 rfl) (by decide) (by decide) (own_EW hw) C0.1) (g := (mkF m 41 #[rv a1, iv p2, iv p3, iv (own_tn c9), iv (p3 - p2)] [(.int (p3 - p2)), (.int p2), (.ref a6)])) rfl (by rw [hml]; rfl) (argsL := [(.ref a6), (.int p2), (.int (p3 - p2))]) (rest := []) (lenOf pd3 rfl) rfl wf (hb hby d15_41) (fun _ _ => ⟨rfl, e25, (by decide : 0 + 2 ≤ _), (by decide : 0 + 4 ≤ _)⟩))
  obtain ⟨Y27, hS27, hZ27, _⟩ := rebS (s := s) (vm0 := s.vm) (State.WarmedH.since (State.WarmedH.refl s) 0) (by rw [e25]; exact (Nat.zero_le _)) X27 hSq27 hg27 hZ hown
  obtain ⟨b27_0, b27_1, k27_0, rfl, N27q, K27, f27_1, f27_2, f27_3, f27_4⟩ := hQ27
  have N27 := Fr.app N24 N27q
  have Kp_K27 : Keep h0 T27.heap [] := (Keep.refl h0 []).trans K27 all0
  have c_K27 := Cq27
  have C_K27 := C0.trans c_K27
  refine finH (Q := r15_2Q Z a1 p2 p3 a6 k8 c9 p11 k16 h0 n0) (rm := (rM 4 2 10 64)) (vm := T27.vm) Bd Y27 hZ27 (own_EW hw) C_K27 hh rfl hS27 (Nat.le_refl _) (some (.ref b27_0)) nofun ⟨b27_0, b27_1, k27_0, rfl, N27, Kp_K27, f27_1, f27_3, f27_2, own_cast H30 H31 f27_4⟩ (by decide) (by decide) fun fs hr => ?_
  show St p e below s₁ m 0 #[rv a1, iv p2, iv p3, un, un] [] _
  refine aN X0 hx hby d15_0 rfl rfl ?_
  refine st15.trans ?_
  refine XS.istoreN X15.here hx rfl (hb hby d15_4) rfl (l' := #[rv a1, iv p2, iv p3, iv (own_tn c9), un]) rfl ?_
  refine iN X15 hx hby d15_5 rfl ?_
  refine iN X15 hx hby d15_6 rfl ?_
  refine iN X15 hx hby d15_7 rfl ?_
  refine st22 _ ?_
  refine iN X22 hx hby d15_11 rfl ?_
  refine XS.ifYes X22.here hx rfl (pc0 := 12) (pc' := 22) rfl (hb hby d15_12) rfl ((if0 _ _).trans (feq hc23).2) (by decide) (by decide) ?_
  refine iN X22 hx hby d15_22 rfl ?_
  refine iN X22 hx hby d15_23 rfl ?_
  refine XS.isub X22.here hx rfl (hb hby d15_24) rfl ?_
  refine XS.istore X22.here hx rfl (hb hby d15_25) rfl (l' := #[rv a1, iv p2, iv p3, iv (own_tn c9), iv (p3 - p2)]) rfl ?_
  refine aN X22 hx hby d15_27 rfl rfl ?_
  refine st24.trans ?_
  refine XS.ifNo X24.here hx rfl (hb hby d15_31) rfl ((if0 _ _).trans (feq (by decide : ¬ ((1:Int32) = (0:Int32)))).1) ?_
  refine aN X24 hx hby d15_34 rfl rfl ?_
  refine st25 _ ?_
  refine iN X25 hx hby d15_38 rfl ?_
  refine iL X25 hx hby d15_39 rfl ?_
  refine st27.trans ?_
  refine XS.goto Y27.here hx rfl (pc0 := 44) (pc' := 57) rfl (hb hby d15_44) (by decide) (by decide) ?_
  exact retA Y27 hx Bd.returns rfl rfl (hb hby d15_57) hr
def r15_3Q (Z : State) (a1 : Addr) (p2 p3:Int32) (a6 : Addr) (k8 : ClassId) (c9 : List Int32) (p11:Int32) (k16 : Value) (h0 : Heap) (n0 : Nat) : QT := fun v h L => own_strQ Z (own_sub c9 p2 p3) h0 n0 v h L
theorem r15_3 (l : Launch) (Z : State) (a0 : Array Value) (hw : HW a0 Z) (ws : List Jvm.Cond) (a1 : Addr) (p2 p3:Int32) (a6 : Addr) (k8 : ClassId) (c9 : List Int32) (p11:Int32) (k16 : Value) (h0 : Heap) (n0 : Nat) (O0 : Old Z n0 h0) (H4 : xE1 Z h0 a1) (H5 : xF2 Z h0 a1 (.int (0:Int32))) (H7 : xF3 Z h0 a1 (.ref a6)) (H10 : Arv Z h0 a6 k8 .byte (own_tn c9) (own_tb c9) (.int (0:Int32))) (H12 : Sta Z Z.heap "java/lang/String" "COMPACT_STRINGS" "Z" (.int p11)) (hc13 : ¬ (p11 = (0:Int32))) (H14 : own_GT c9) (H17 : Sta Z Z.heap "jdk/internal/util/Preconditions" "SIOOBE_FORMATTER" "Ljava/util/function/BiFunction;" k16) (H18 : k16.isRef = true) (hc19 : ¬ (p2 < (0:Int32))) (hc20 : ¬ (p3 < p2)) (hc21 : ¬ ((own_tn c9) < p3)) (hc23 : p2 = (0:Int32)) (hc24 : ¬ (p3 = (own_tn c9))) (hc27 : (p3 - p2) = (0:Int32)) (H31 : (own_tn []) = own_tn (own_sub c9 p2 p3)) (H32 : (own_tb []) = own_tb (own_sub c9 p2 p3)) :
    MFH l y15 cJ42_92 5 (some (.object "java/lang/String")) ws (rM 4 2 10 64) Z #[(.ref a1), (.int p2), (.int p3)] h0 (r15_3Q Z a1 p2 p3 a6 k8 c9 p11 k16 h0 n0) := by
  refine own_inH (pq pn5) #[rv a1, iv p2, iv p3, un, un] (fun _ => by first | (simp [entryFrame, mkF, argsToLocals, Value.category]; done) | rfl) ?_
  intro p e s m below meth c s₁ Bd hx hby hml hown hnm hZ hh C0 e0 X0
  have N0 := Fr.nil n0
  obtain ⟨_, _, q15a, _, q15c⟩ := isOf hZ e0 H4
  obtain ⟨_, _, _, X15, hQ15, st15⟩ := fl X0 (X0.virtualBack hx (y := y8) (z := y8) hown (mo hZ hw 41 rfl) (mo hZ hw 42 rfl) (notFace_of_selects (args := #[]) (mo hZ hw 44 rfl)) (mo hZ hw 44 rfl) (mo hZ hw 43 rfl) (by decide) (own_lenB (W := 0) n0 hZ hw (ow hw 10 rfl) H4 H7 H5 H10 H14 (H12.ext O0.2) hc13 (by decide) (by decide)) q15a q15c (g := (mkF m 1 #[rv a1, iv p2, iv p3, un, un] [(.ref a1)])) rfl (by rw [hml]; rfl) (Steps.refl _) (argsL := []) (rest := []) (lenOf pd23 rfl) rfl wf (hb hby d15_1) (fun _ _ => ⟨rfl, e0, (by decide : 0 + 0 ≤ _), (by decide : 0 + 0 ≤ _)⟩))
  obtain ⟨rfl, N15q, e15⟩ := hQ15
  have N15 := Fr.app N0 N15q
  obtain ⟨_, _, _, X22, hQ22, st22⟩ := cS X15 hx hZ hw hown (y := y16) 77 rfl 78 rfl 9 rfl 79 rfl (by decide) (W := 0) (own_cbe l Z a0 hw [] p2 p3 (own_tn c9) k16 h0 n0 O0 H17 H18 hc19 hc20 hc21) (by decide) (by decide) e15 (g := (mkF m 8 #[rv a1, iv p2, iv p3, iv (own_tn c9), un] [(.int (own_tn c9)), (.int p3), (.int p2)])) rfl (by rw [hml]; rfl) (argsL := [(.int p2), (.int p3), (.int (own_tn c9))]) (rest := []) (lenOf pd12 rfl) rfl wf (hb hby d15_8) rfl (by decide) (by decide)
  obtain ⟨rfl, N22q, e22⟩ := hQ22
  have N22 := Fr.app N15 N22q
  obtain ⟨_, _, _, X25, hQ25, st25⟩ := cV X22 hx hZ hw hown (y := y7) 33 rfl 34 rfl 36 rfl 35 rfl 37 rfl 9 rfl (by decide) (W := 0) (r7_1 l Z a0 hw [] a1 p11 h0 n0 O0 H12 hc13 H5) (by decide) (by decide) H4 e22 (g := (mkF m 28 #[rv a1, iv p2, iv p3, iv (own_tn c9), iv (p3 - p2)] [(.ref a1)])) rfl (by rw [hml]; rfl) (argsL := []) (rest := []) (lenOf pd22 rfl) rfl wf (hb hby d15_28) rfl (by decide) (by decide)
  obtain ⟨rfl, N25q, e25⟩ := hQ25
  have N25 := Fr.app N22 N25q
  obtain ⟨_, X26, e26, st26⟩ := gF X25 hx hZ hown (ow hw 40 rfl) e25 H7 (g := (mkF m 35 #[rv a1, iv p2, iv p3, iv (own_tn c9), iv (p3 - p2)] [(.ref a1)])) rfl rfl (hb hby d15_35)
  obtain ⟨T28, _, _, X28, hSq28, hg28, Cq28, hQ28, st28⟩ := flH X26 (Jvm.RoadKit.callSS X26 hx (y := y18) hown (mo hZ hw 126 rfl) (mo hZ hw 127 rfl) (mo hZ hw 53 rfl) (mo hZ hw 128 rfl) (by decide) (backOfSH (s := s) (vm0 := s.vm) (W := 0) (r18_1 l Z a0 hw [] a6 p2 (p3 - p2) h0 n0 O0 hc27) hZ (ow hw 128 rfl) (ow hw 53 rfl) (by decide) (by decide) (own_EW hw) C0.1) (g := (mkF m 41 #[rv a1, iv p2, iv p3, iv (own_tn c9), iv (p3 - p2)] [(.int (p3 - p2)), (.int p2), (.ref a6)])) rfl (by rw [hml]; rfl) (argsL := [(.ref a6), (.int p2), (.int (p3 - p2))]) (rest := []) (lenOf pd3 rfl) rfl wf (hb hby d15_41) (fun _ _ => ⟨rfl, e26, (by decide : 0 + 2 ≤ _), (by decide : 0 + 4 ≤ _)⟩))
  obtain ⟨Y28, hS28, hZ28, _⟩ := rebS (s := s) (vm0 := s.vm) (State.WarmedH.since (State.WarmedH.refl s) 0) (by rw [e26]; exact (Nat.zero_le _)) X28 hSq28 hg28 hZ hown
  obtain ⟨b28_0, b28_1, k28_0, rfl, N28q, K28, f28_1, f28_2, f28_3, f28_4⟩ := hQ28
  have N28 := Fr.app N25 N28q
  have Kp_K28 : Keep h0 T28.heap [] := (Keep.refl h0 []).trans K28 all0
  have c_K28 := Cq28
  have C_K28 := C0.trans c_K28
  refine finH (Q := r15_3Q Z a1 p2 p3 a6 k8 c9 p11 k16 h0 n0) (rm := (rM 4 2 10 64)) (vm := T28.vm) Bd Y28 hZ28 (own_EW hw) C_K28 hh rfl hS28 (Nat.le_refl _) (some (.ref b28_0)) nofun ⟨b28_0, b28_1, k28_0, rfl, N28, Kp_K28, f28_1, f28_3, f28_2, own_cast H31 H32 f28_4⟩ (by decide) (by decide) fun fs hr => ?_
  show St p e below s₁ m 0 #[rv a1, iv p2, iv p3, un, un] [] _
  refine aN X0 hx hby d15_0 rfl rfl ?_
  refine st15.trans ?_
  refine XS.istoreN X15.here hx rfl (hb hby d15_4) rfl (l' := #[rv a1, iv p2, iv p3, iv (own_tn c9), un]) rfl ?_
  refine iN X15 hx hby d15_5 rfl ?_
  refine iN X15 hx hby d15_6 rfl ?_
  refine iN X15 hx hby d15_7 rfl ?_
  refine st22 _ ?_
  refine iN X22 hx hby d15_11 rfl ?_
  refine XS.ifNo X22.here hx rfl (hb hby d15_12) rfl ((if0 _ _).trans (teq hc23).2) ?_
  refine iN X22 hx hby d15_15 rfl ?_
  refine iN X22 hx hby d15_16 rfl ?_
  refine XS.icmpYes X22.here hx rfl (pc0 := 17) (pc' := 22) rfl (hb hby d15_17) rfl (feq hc24).2 (by decide) (by decide) ?_
  refine iN X22 hx hby d15_22 rfl ?_
  refine iN X22 hx hby d15_23 rfl ?_
  refine XS.isub X22.here hx rfl (hb hby d15_24) rfl ?_
  refine XS.istore X22.here hx rfl (hb hby d15_25) rfl (l' := #[rv a1, iv p2, iv p3, iv (own_tn c9), iv (p3 - p2)]) rfl ?_
  refine aN X22 hx hby d15_27 rfl rfl ?_
  refine st25.trans ?_
  refine XS.ifNo X25.here hx rfl (hb hby d15_31) rfl ((if0 _ _).trans (feq (by decide : ¬ ((1:Int32) = (0:Int32)))).1) ?_
  refine aN X25 hx hby d15_34 rfl rfl ?_
  refine st26 _ ?_
  refine iN X26 hx hby d15_38 rfl ?_
  refine iL X26 hx hby d15_39 rfl ?_
  refine st28.trans ?_
  refine XS.goto Y28.here hx rfl (pc0 := 44) (pc' := 57) rfl (hb hby d15_44) (by decide) (by decide) ?_
  show St p e below T28 m 57 #[rv a1, iv p2, iv p3, iv (own_tn c9), iv (p3 - p2)] [(.ref b28_0)] _
  exact retA Y28 hx Bd.returns rfl rfl (hb hby d15_57) hr
def r15_4Q (Z : State) (a1 : Addr) (p2 p3:Int32) (a6 : Addr) (k8 : ClassId) (c9 : List Int32) (p11:Int32) (k16 : Value) (h0 : Heap) (n0 : Nat) : QT := fun v h L => own_strQ Z (own_sub c9 p2 p3) h0 n0 v h L
theorem r15_4 (l : Launch) (Z : State) (a0 : Array Value) (hw : HW a0 Z) (ws : List Jvm.Cond) (a1 : Addr) (p2 p3:Int32) (a6 : Addr) (k8 : ClassId) (c9 : List Int32) (p11:Int32) (k16 : Value) (h0 : Heap) (n0 : Nat) (O0 : Old Z n0 h0) (H4 : xE1 Z h0 a1) (H5 : xF2 Z h0 a1 (.int (0:Int32))) (H7 : xF3 Z h0 a1 (.ref a6)) (H10 : Arv Z h0 a6 k8 .byte (own_tn c9) (own_tb c9) (.int (0:Int32))) (H12 : Sta Z Z.heap "java/lang/String" "COMPACT_STRINGS" "Z" (.int p11)) (hc13 : ¬ (p11 = (0:Int32))) (H14 : own_GT c9) (H17 : Sta Z Z.heap "jdk/internal/util/Preconditions" "SIOOBE_FORMATTER" "Ljava/util/function/BiFunction;" k16) (H18 : k16.isRef = true) (hc19 : ¬ (p2 < (0:Int32))) (hc20 : ¬ (p3 < p2)) (hc21 : ¬ ((own_tn c9) < p3)) (hc23 : p2 = (0:Int32)) (hc24 : ¬ (p3 = (own_tn c9))) (hc27 : ¬ ((p3 - p2) = (0:Int32))) (hc28 : ¬ ((p2 + (p3 - p2)) = (own_tn c9))) (hc29 : ¬ ((p2 + (p3 - p2)) < p2)) (hc30 : ¬ (((p2 + (p3 - p2)) - p2) < (0:Int32))) (hc31 : ((p2 + (p3 - p2)) - p2).toNatClampNeg ≤ 6) (hc32 : ((p2 + (p3 - p2)) - p2) < ((own_tn c9) - p2)) (hc33 : p2.toNatClampNeg + ((p2 + (p3 - p2)) - p2).toNatClampNeg ≤ (own_tn c9).toNatClampNeg) (hc34 : (0:Int32).toNatClampNeg + ((p2 + (p3 - p2)) - p2).toNatClampNeg ≤ ((p2 + (p3 - p2)) - p2).toNatClampNeg) (H38 : ((p2 + (p3 - p2)) - p2) = own_tn (own_sub c9 p2 p3)) (H39 : (own_cp ((p2 + (p3 - p2)) - p2) (own_tb c9) p2 ((p2 + (p3 - p2)) - p2)) = own_tb (own_sub c9 p2 p3)) :
    MFH l y15 cJ42_92 5 (some (.object "java/lang/String")) ws (rM 4 2 10 64) Z #[(.ref a1), (.int p2), (.int p3)] h0 (r15_4Q Z a1 p2 p3 a6 k8 c9 p11 k16 h0 n0) := by
  refine own_inH (pq pn5) #[rv a1, iv p2, iv p3, un, un] (fun _ => by first | (simp [entryFrame, mkF, argsToLocals, Value.category]; done) | rfl) ?_
  intro p e s m below meth c s₁ Bd hx hby hml hown hnm hZ hh C0 e0 X0
  have N0 := Fr.nil n0
  obtain ⟨_, _, q15a, _, q15c⟩ := isOf hZ e0 H4
  obtain ⟨_, _, _, X15, hQ15, st15⟩ := fl X0 (X0.virtualBack hx (y := y8) (z := y8) hown (mo hZ hw 41 rfl) (mo hZ hw 42 rfl) (notFace_of_selects (args := #[]) (mo hZ hw 44 rfl)) (mo hZ hw 44 rfl) (mo hZ hw 43 rfl) (by decide) (own_lenB (W := 0) n0 hZ hw (ow hw 10 rfl) H4 H7 H5 H10 H14 (H12.ext O0.2) hc13 (by decide) (by decide)) q15a q15c (g := (mkF m 1 #[rv a1, iv p2, iv p3, un, un] [(.ref a1)])) rfl (by rw [hml]; rfl) (Steps.refl _) (argsL := []) (rest := []) (lenOf pd23 rfl) rfl wf (hb hby d15_1) (fun _ _ => ⟨rfl, e0, (by decide : 0 + 0 ≤ _), (by decide : 0 + 0 ≤ _)⟩))
  obtain ⟨rfl, N15q, e15⟩ := hQ15
  have N15 := Fr.app N0 N15q
  obtain ⟨_, _, _, X22, hQ22, st22⟩ := cS X15 hx hZ hw hown (y := y16) 77 rfl 78 rfl 9 rfl 79 rfl (by decide) (W := 0) (own_cbe l Z a0 hw [] p2 p3 (own_tn c9) k16 h0 n0 O0 H17 H18 hc19 hc20 hc21) (by decide) (by decide) e15 (g := (mkF m 8 #[rv a1, iv p2, iv p3, iv (own_tn c9), un] [(.int (own_tn c9)), (.int p3), (.int p2)])) rfl (by rw [hml]; rfl) (argsL := [(.int p2), (.int p3), (.int (own_tn c9))]) (rest := []) (lenOf pd12 rfl) rfl wf (hb hby d15_8) rfl (by decide) (by decide)
  obtain ⟨rfl, N22q, e22⟩ := hQ22
  have N22 := Fr.app N15 N22q
  obtain ⟨_, _, _, X25, hQ25, st25⟩ := cV X22 hx hZ hw hown (y := y7) 33 rfl 34 rfl 36 rfl 35 rfl 37 rfl 9 rfl (by decide) (W := 0) (r7_1 l Z a0 hw [] a1 p11 h0 n0 O0 H12 hc13 H5) (by decide) (by decide) H4 e22 (g := (mkF m 28 #[rv a1, iv p2, iv p3, iv (own_tn c9), iv (p3 - p2)] [(.ref a1)])) rfl (by rw [hml]; rfl) (argsL := []) (rest := []) (lenOf pd22 rfl) rfl wf (hb hby d15_28) rfl (by decide) (by decide)
  obtain ⟨rfl, N25q, e25⟩ := hQ25
  have N25 := Fr.app N22 N25q
  obtain ⟨_, X26, e26, st26⟩ := gF X25 hx hZ hown (ow hw 40 rfl) e25 H7 (g := (mkF m 35 #[rv a1, iv p2, iv p3, iv (own_tn c9), iv (p3 - p2)] [(.ref a1)])) rfl rfl (hb hby d15_35)
  obtain ⟨T35, _, _, X35, hSq35, hg35, Cq35, hQ35, st35⟩ := flH X26 (Jvm.RoadKit.callSS X26 hx (y := y18) hown (mo hZ hw 126 rfl) (mo hZ hw 127 rfl) (mo hZ hw 53 rfl) (mo hZ hw 128 rfl) (by decide) (backOfSH (s := s) (vm0 := s.vm) (W := 0) (r18_2 l Z a0 hw [] a6 p2 (p3 - p2) k8 c9 h0 n0 O0 hc27 hc23 H10 hc28 hc29 hc30 hc31 hc32 hc19 hc33 hc34) hZ (ow hw 128 rfl) (ow hw 53 rfl) (by decide) (by decide) (own_EW hw) C0.1) (g := (mkF m 41 #[rv a1, iv p2, iv p3, iv (own_tn c9), iv (p3 - p2)] [(.int (p3 - p2)), (.int p2), (.ref a6)])) rfl (by rw [hml]; rfl) (argsL := [(.ref a6), (.int p2), (.int (p3 - p2))]) (rest := []) (lenOf pd3 rfl) rfl wf (hb hby d15_41) (fun _ _ => ⟨rfl, e26, (by decide : 0 + 2 ≤ _), (by decide : 0 + 10 ≤ _)⟩))
  obtain ⟨Y35, hS35, hZ35, _⟩ := rebS (s := s) (vm0 := s.vm) (State.WarmedH.since (State.WarmedH.refl s) 0) (by rw [e26]; exact (Nat.zero_le _)) X35 hSq35 hg35 hZ hown
  obtain ⟨b35_0, b35_1, k35_0, rfl, N35q, K35, _, _, _, f35_4, f35_5, f35_6, f35_7, _⟩ := hQ35
  have N35 := Fr.app N25 N35q
  have Kp_K35 : Keep h0 T35.heap [] := (Keep.refl h0 []).trans K35 all0
  have c_K35 := Cq35
  have C_K35 := C0.trans c_K35
  refine finH (Q := r15_4Q Z a1 p2 p3 a6 k8 c9 p11 k16 h0 n0) (rm := (rM 4 2 10 64)) (vm := T35.vm) Bd Y35 hZ35 (own_EW hw) C_K35 hh rfl hS35 (Nat.le_refl _) (some (.ref b35_0)) nofun ⟨b35_0, b35_1, k35_0, rfl, N35, Kp_K35, f35_4, f35_5, f35_6, own_cast H38 H39 f35_7⟩ (by decide) (by decide) fun fs hr => ?_
  show St p e below s₁ m 0 #[rv a1, iv p2, iv p3, un, un] [] _
  refine aN X0 hx hby d15_0 rfl rfl ?_
  refine st15.trans ?_
  refine XS.istoreN X15.here hx rfl (hb hby d15_4) rfl (l' := #[rv a1, iv p2, iv p3, iv (own_tn c9), un]) rfl ?_
  refine iN X15 hx hby d15_5 rfl ?_
  refine iN X15 hx hby d15_6 rfl ?_
  refine iN X15 hx hby d15_7 rfl ?_
  refine st22 _ ?_
  refine iN X22 hx hby d15_11 rfl ?_
  refine XS.ifNo X22.here hx rfl (hb hby d15_12) rfl ((if0 _ _).trans (teq hc23).2) ?_
  refine iN X22 hx hby d15_15 rfl ?_
  refine iN X22 hx hby d15_16 rfl ?_
  refine XS.icmpYes X22.here hx rfl (pc0 := 17) (pc' := 22) rfl (hb hby d15_17) rfl (feq hc24).2 (by decide) (by decide) ?_
  refine iN X22 hx hby d15_22 rfl ?_
  refine iN X22 hx hby d15_23 rfl ?_
  refine XS.isub X22.here hx rfl (hb hby d15_24) rfl ?_
  refine XS.istore X22.here hx rfl (hb hby d15_25) rfl (l' := #[rv a1, iv p2, iv p3, iv (own_tn c9), iv (p3 - p2)]) rfl ?_
  refine aN X22 hx hby d15_27 rfl rfl ?_
  refine st25.trans ?_
  refine XS.ifNo X25.here hx rfl (hb hby d15_31) rfl ((if0 _ _).trans (feq (by decide : ¬ ((1:Int32) = (0:Int32)))).1) ?_
  refine aN X25 hx hby d15_34 rfl rfl ?_
  refine st26 _ ?_
  refine iN X26 hx hby d15_38 rfl ?_
  refine iL X26 hx hby d15_39 rfl ?_
  refine st35.trans ?_
  refine XS.goto Y35.here hx rfl (pc0 := 44) (pc' := 57) rfl (hb hby d15_44) (by decide) (by decide) ?_
  show St p e below T35 m 57 #[rv a1, iv p2, iv p3, iv (own_tn c9), iv (p3 - p2)] [(.ref b35_0)] _
  exact retA Y35 hx Bd.returns rfl rfl (hb hby d15_57) hr
def r15_5Q (Z : State) (a1 : Addr) (p2 p3:Int32) (a6 : Addr) (k8 : ClassId) (c9 : List Int32) (p11:Int32) (k16 : Value) (h0 : Heap) (n0 : Nat) : QT := fun v h L => own_strQ Z (own_sub c9 p2 p3) h0 n0 v h L
theorem r15_5 (l : Launch) (Z : State) (a0 : Array Value) (hw : HW a0 Z) (ws : List Jvm.Cond) (a1 : Addr) (p2 p3:Int32) (a6 : Addr) (k8 : ClassId) (c9 : List Int32) (p11:Int32) (k16 : Value) (h0 : Heap) (n0 : Nat) (O0 : Old Z n0 h0) (H4 : xE1 Z h0 a1) (H5 : xF2 Z h0 a1 (.int (0:Int32))) (H7 : xF3 Z h0 a1 (.ref a6)) (H10 : Arv Z h0 a6 k8 .byte (own_tn c9) (own_tb c9) (.int (0:Int32))) (H12 : Sta Z Z.heap "java/lang/String" "COMPACT_STRINGS" "Z" (.int p11)) (hc13 : ¬ (p11 = (0:Int32))) (H14 : own_GT c9) (H17 : Sta Z Z.heap "jdk/internal/util/Preconditions" "SIOOBE_FORMATTER" "Ljava/util/function/BiFunction;" k16) (H18 : k16.isRef = true) (hc19 : ¬ (p2 < (0:Int32))) (hc20 : ¬ (p3 < p2)) (hc21 : ¬ ((own_tn c9) < p3)) (hc23 : ¬ (p2 = (0:Int32))) (hc26 : ¬ ((p3 - p2) = (0:Int32))) (hc27 : ¬ ((p2 + (p3 - p2)) < p2)) (hc28 : ¬ (((p2 + (p3 - p2)) - p2) < (0:Int32))) (hc29 : ((p2 + (p3 - p2)) - p2).toNatClampNeg ≤ 6) (hc30 : ((p2 + (p3 - p2)) - p2) < ((own_tn c9) - p2)) (hc31 : p2.toNatClampNeg + ((p2 + (p3 - p2)) - p2).toNatClampNeg ≤ (own_tn c9).toNatClampNeg) (hc32 : (0:Int32).toNatClampNeg + ((p2 + (p3 - p2)) - p2).toNatClampNeg ≤ ((p2 + (p3 - p2)) - p2).toNatClampNeg) (H36 : ((p2 + (p3 - p2)) - p2) = own_tn (own_sub c9 p2 p3)) (H37 : (own_cp ((p2 + (p3 - p2)) - p2) (own_tb c9) p2 ((p2 + (p3 - p2)) - p2)) = own_tb (own_sub c9 p2 p3)) :
    MFH l y15 cJ42_92 5 (some (.object "java/lang/String")) ws (rM 4 2 10 64) Z #[(.ref a1), (.int p2), (.int p3)] h0 (r15_5Q Z a1 p2 p3 a6 k8 c9 p11 k16 h0 n0) := by
  refine own_inH (pq pn5) #[rv a1, iv p2, iv p3, un, un] (fun _ => by first | (simp [entryFrame, mkF, argsToLocals, Value.category]; done) | rfl) ?_
  intro p e s m below meth c s₁ Bd hx hby hml hown hnm hZ hh C0 e0 X0
  have N0 := Fr.nil n0
  obtain ⟨_, _, q15a, _, q15c⟩ := isOf hZ e0 H4
  obtain ⟨_, _, _, X15, hQ15, st15⟩ := fl X0 (X0.virtualBack hx (y := y8) (z := y8) hown (mo hZ hw 41 rfl) (mo hZ hw 42 rfl) (notFace_of_selects (args := #[]) (mo hZ hw 44 rfl)) (mo hZ hw 44 rfl) (mo hZ hw 43 rfl) (by decide) (own_lenB (W := 0) n0 hZ hw (ow hw 10 rfl) H4 H7 H5 H10 H14 (H12.ext O0.2) hc13 (by decide) (by decide)) q15a q15c (g := (mkF m 1 #[rv a1, iv p2, iv p3, un, un] [(.ref a1)])) rfl (by rw [hml]; rfl) (Steps.refl _) (argsL := []) (rest := []) (lenOf pd23 rfl) rfl wf (hb hby d15_1) (fun _ _ => ⟨rfl, e0, (by decide : 0 + 0 ≤ _), (by decide : 0 + 0 ≤ _)⟩))
  obtain ⟨rfl, N15q, e15⟩ := hQ15
  have N15 := Fr.app N0 N15q
  obtain ⟨_, _, _, X22, hQ22, st22⟩ := cS X15 hx hZ hw hown (y := y16) 77 rfl 78 rfl 9 rfl 79 rfl (by decide) (W := 0) (own_cbe l Z a0 hw [] p2 p3 (own_tn c9) k16 h0 n0 O0 H17 H18 hc19 hc20 hc21) (by decide) (by decide) e15 (g := (mkF m 8 #[rv a1, iv p2, iv p3, iv (own_tn c9), un] [(.int (own_tn c9)), (.int p3), (.int p2)])) rfl (by rw [hml]; rfl) (argsL := [(.int p2), (.int p3), (.int (own_tn c9))]) (rest := []) (lenOf pd12 rfl) rfl wf (hb hby d15_8) rfl (by decide) (by decide)
  obtain ⟨rfl, N22q, e22⟩ := hQ22
  have N22 := Fr.app N15 N22q
  obtain ⟨_, _, _, X24, hQ24, st24⟩ := cV X22 hx hZ hw hown (y := y7) 33 rfl 34 rfl 36 rfl 35 rfl 37 rfl 9 rfl (by decide) (W := 0) (r7_1 l Z a0 hw [] a1 p11 h0 n0 O0 H12 hc13 H5) (by decide) (by decide) H4 e22 (g := (mkF m 28 #[rv a1, iv p2, iv p3, iv (own_tn c9), iv (p3 - p2)] [(.ref a1)])) rfl (by rw [hml]; rfl) (argsL := []) (rest := []) (lenOf pd22 rfl) rfl wf (hb hby d15_28) rfl (by decide) (by decide)
  obtain ⟨rfl, N24q, e24⟩ := hQ24
  have N24 := Fr.app N22 N24q
  obtain ⟨_, X25, e25, st25⟩ := gF X24 hx hZ hown (ow hw 40 rfl) e24 H7 (g := (mkF m 35 #[rv a1, iv p2, iv p3, iv (own_tn c9), iv (p3 - p2)] [(.ref a1)])) rfl rfl (hb hby d15_35)
  obtain ⟨T33, _, _, X33, hSq33, hg33, Cq33, hQ33, st33⟩ := flH X25 (Jvm.RoadKit.callSS X25 hx (y := y18) hown (mo hZ hw 126 rfl) (mo hZ hw 127 rfl) (mo hZ hw 53 rfl) (mo hZ hw 128 rfl) (by decide) (backOfSH (s := s) (vm0 := s.vm) (W := 0) (r18_3 l Z a0 hw [] a6 p2 (p3 - p2) k8 c9 h0 n0 O0 hc26 hc23 hc27 hc28 hc29 H10 hc30 hc19 hc31 hc32) hZ (ow hw 128 rfl) (ow hw 53 rfl) (by decide) (by decide) (own_EW hw) C0.1) (g := (mkF m 41 #[rv a1, iv p2, iv p3, iv (own_tn c9), iv (p3 - p2)] [(.int (p3 - p2)), (.int p2), (.ref a6)])) rfl (by rw [hml]; rfl) (argsL := [(.ref a6), (.int p2), (.int (p3 - p2))]) (rest := []) (lenOf pd3 rfl) rfl wf (hb hby d15_41) (fun _ _ => ⟨rfl, e25, (by decide : 0 + 2 ≤ _), (by decide : 0 + 10 ≤ _)⟩))
  obtain ⟨Y33, hS33, hZ33, _⟩ := rebS (s := s) (vm0 := s.vm) (State.WarmedH.since (State.WarmedH.refl s) 0) (by rw [e25]; exact (Nat.zero_le _)) X33 hSq33 hg33 hZ hown
  obtain ⟨b33_0, b33_1, k33_0, rfl, N33q, K33, _, _, _, f33_4, f33_5, f33_6, f33_7, _⟩ := hQ33
  have N33 := Fr.app N24 N33q
  have Kp_K33 : Keep h0 T33.heap [] := (Keep.refl h0 []).trans K33 all0
  have c_K33 := Cq33
  have C_K33 := C0.trans c_K33
  refine finH (Q := r15_5Q Z a1 p2 p3 a6 k8 c9 p11 k16 h0 n0) (rm := (rM 4 2 10 64)) (vm := T33.vm) Bd Y33 hZ33 (own_EW hw) C_K33 hh rfl hS33 (Nat.le_refl _) (some (.ref b33_0)) nofun ⟨b33_0, b33_1, k33_0, rfl, N33, Kp_K33, f33_4, f33_5, f33_6, own_cast H36 H37 f33_7⟩ (by decide) (by decide) fun fs hr => ?_
  show St p e below s₁ m 0 #[rv a1, iv p2, iv p3, un, un] [] _
  refine aN X0 hx hby d15_0 rfl rfl ?_
  refine st15.trans ?_
  refine XS.istoreN X15.here hx rfl (hb hby d15_4) rfl (l' := #[rv a1, iv p2, iv p3, iv (own_tn c9), un]) rfl ?_
  refine iN X15 hx hby d15_5 rfl ?_
  refine iN X15 hx hby d15_6 rfl ?_
  refine iN X15 hx hby d15_7 rfl ?_
  refine st22 _ ?_
  refine iN X22 hx hby d15_11 rfl ?_
  refine XS.ifYes X22.here hx rfl (pc0 := 12) (pc' := 22) rfl (hb hby d15_12) rfl ((if0 _ _).trans (feq hc23).2) (by decide) (by decide) ?_
  refine iN X22 hx hby d15_22 rfl ?_
  refine iN X22 hx hby d15_23 rfl ?_
  refine XS.isub X22.here hx rfl (hb hby d15_24) rfl ?_
  refine XS.istore X22.here hx rfl (hb hby d15_25) rfl (l' := #[rv a1, iv p2, iv p3, iv (own_tn c9), iv (p3 - p2)]) rfl ?_
  refine aN X22 hx hby d15_27 rfl rfl ?_
  refine st24.trans ?_
  refine XS.ifNo X24.here hx rfl (hb hby d15_31) rfl ((if0 _ _).trans (feq (by decide : ¬ ((1:Int32) = (0:Int32)))).1) ?_
  refine aN X24 hx hby d15_34 rfl rfl ?_
  refine st25 _ ?_
  refine iN X25 hx hby d15_38 rfl ?_
  refine iL X25 hx hby d15_39 rfl ?_
  refine st33.trans ?_
  refine XS.goto Y33.here hx rfl (pc0 := 44) (pc' := 57) rfl (hb hby d15_44) (by decide) (by decide) ?_
  exact retA Y33 hx Bd.returns rfl rfl (hb hby d15_57) hr
def r15_6Q (Z : State) (a1 : Addr) (p2 p3:Int32) (a6 : Addr) (k8 : ClassId) (c9 : List Int32) (p11:Int32) (k16 : Value) (h0 : Heap) (n0 : Nat) : QT := fun v h L => own_strQ Z (own_sub c9 p2 p3) h0 n0 v h L
theorem r15_6 (l : Launch) (Z : State) (a0 : Array Value) (hw : HW a0 Z) (ws : List Jvm.Cond) (a1 : Addr) (p2 p3:Int32) (a6 : Addr) (k8 : ClassId) (c9 : List Int32) (p11:Int32) (k16 : Value) (h0 : Heap) (n0 : Nat) (O0 : Old Z n0 h0) (H4 : xE1 Z h0 a1) (H5 : xF2 Z h0 a1 (.int (0:Int32))) (H7 : xF3 Z h0 a1 (.ref a6)) (H10 : Arv Z h0 a6 k8 .byte (own_tn c9) (own_tb c9) (.int (0:Int32))) (H12 : Sta Z Z.heap "java/lang/String" "COMPACT_STRINGS" "Z" (.int p11)) (hc13 : ¬ (p11 = (0:Int32))) (H14 : own_GT c9) (H17 : Sta Z Z.heap "jdk/internal/util/Preconditions" "SIOOBE_FORMATTER" "Ljava/util/function/BiFunction;" k16) (H18 : k16.isRef = true) (hc19 : ¬ (p2 < (0:Int32))) (hc20 : ¬ (p3 < p2)) (hc21 : ¬ ((own_tn c9) < p3)) (hc23 : ¬ (p2 = (0:Int32))) (hc26 : ¬ ((p3 - p2) = (0:Int32))) (hc27 : ¬ ((p2 + (p3 - p2)) < p2)) (hc28 : ¬ (((p2 + (p3 - p2)) - p2) < (0:Int32))) (hc29 : ((p2 + (p3 - p2)) - p2).toNatClampNeg ≤ 6) (hc30 : ¬ (((p2 + (p3 - p2)) - p2) < ((own_tn c9) - p2))) (hc31 : ¬ (((own_tn c9) - p2) < (0:Int32))) (hc32 : p2.toNatClampNeg + ((own_tn c9) - p2).toNatClampNeg ≤ (own_tn c9).toNatClampNeg) (hc33 : (0:Int32).toNatClampNeg + ((own_tn c9) - p2).toNatClampNeg ≤ ((p2 + (p3 - p2)) - p2).toNatClampNeg) (H37 : ((p2 + (p3 - p2)) - p2) = own_tn (own_sub c9 p2 p3)) (H38 : (own_cp ((p2 + (p3 - p2)) - p2) (own_tb c9) p2 ((own_tn c9) - p2)) = own_tb (own_sub c9 p2 p3)) :
    MFH l y15 cJ42_92 5 (some (.object "java/lang/String")) ws (rM 4 2 10 64) Z #[(.ref a1), (.int p2), (.int p3)] h0 (r15_6Q Z a1 p2 p3 a6 k8 c9 p11 k16 h0 n0) := by
  refine own_inH (pq pn5) #[rv a1, iv p2, iv p3, un, un] (fun _ => by first | (simp [entryFrame, mkF, argsToLocals, Value.category]; done) | rfl) ?_
  intro p e s m below meth c s₁ Bd hx hby hml hown hnm hZ hh C0 e0 X0
  have N0 := Fr.nil n0
  obtain ⟨_, _, q15a, _, q15c⟩ := isOf hZ e0 H4
  obtain ⟨_, _, _, X15, hQ15, st15⟩ := fl X0 (X0.virtualBack hx (y := y8) (z := y8) hown (mo hZ hw 41 rfl) (mo hZ hw 42 rfl) (notFace_of_selects (args := #[]) (mo hZ hw 44 rfl)) (mo hZ hw 44 rfl) (mo hZ hw 43 rfl) (by decide) (own_lenB (W := 0) n0 hZ hw (ow hw 10 rfl) H4 H7 H5 H10 H14 (H12.ext O0.2) hc13 (by decide) (by decide)) q15a q15c (g := (mkF m 1 #[rv a1, iv p2, iv p3, un, un] [(.ref a1)])) rfl (by rw [hml]; rfl) (Steps.refl _) (argsL := []) (rest := []) (lenOf pd23 rfl) rfl wf (hb hby d15_1) (fun _ _ => ⟨rfl, e0, (by decide : 0 + 0 ≤ _), (by decide : 0 + 0 ≤ _)⟩))
  obtain ⟨rfl, N15q, e15⟩ := hQ15
  have N15 := Fr.app N0 N15q
  obtain ⟨_, _, _, X22, hQ22, st22⟩ := cS X15 hx hZ hw hown (y := y16) 77 rfl 78 rfl 9 rfl 79 rfl (by decide) (W := 0) (own_cbe l Z a0 hw [] p2 p3 (own_tn c9) k16 h0 n0 O0 H17 H18 hc19 hc20 hc21) (by decide) (by decide) e15 (g := (mkF m 8 #[rv a1, iv p2, iv p3, iv (own_tn c9), un] [(.int (own_tn c9)), (.int p3), (.int p2)])) rfl (by rw [hml]; rfl) (argsL := [(.int p2), (.int p3), (.int (own_tn c9))]) (rest := []) (lenOf pd12 rfl) rfl wf (hb hby d15_8) rfl (by decide) (by decide)
  obtain ⟨rfl, N22q, e22⟩ := hQ22
  have N22 := Fr.app N15 N22q
  obtain ⟨_, _, _, X24, hQ24, st24⟩ := cV X22 hx hZ hw hown (y := y7) 33 rfl 34 rfl 36 rfl 35 rfl 37 rfl 9 rfl (by decide) (W := 0) (r7_1 l Z a0 hw [] a1 p11 h0 n0 O0 H12 hc13 H5) (by decide) (by decide) H4 e22 (g := (mkF m 28 #[rv a1, iv p2, iv p3, iv (own_tn c9), iv (p3 - p2)] [(.ref a1)])) rfl (by rw [hml]; rfl) (argsL := []) (rest := []) (lenOf pd22 rfl) rfl wf (hb hby d15_28) rfl (by decide) (by decide)
  obtain ⟨rfl, N24q, e24⟩ := hQ24
  have N24 := Fr.app N22 N24q
  obtain ⟨_, X25, e25, st25⟩ := gF X24 hx hZ hown (ow hw 40 rfl) e24 H7 (g := (mkF m 35 #[rv a1, iv p2, iv p3, iv (own_tn c9), iv (p3 - p2)] [(.ref a1)])) rfl rfl (hb hby d15_35)
  obtain ⟨T34, _, _, X34, hSq34, hg34, Cq34, hQ34, st34⟩ := flH X25 (Jvm.RoadKit.callSS X25 hx (y := y18) hown (mo hZ hw 126 rfl) (mo hZ hw 127 rfl) (mo hZ hw 53 rfl) (mo hZ hw 128 rfl) (by decide) (backOfSH (s := s) (vm0 := s.vm) (W := 0) (r18_4 l Z a0 hw [] a6 p2 (p3 - p2) k8 c9 h0 n0 O0 hc26 hc23 hc27 hc28 hc29 H10 hc30 hc19 hc31 hc32 hc33) hZ (ow hw 128 rfl) (ow hw 53 rfl) (by decide) (by decide) (own_EW hw) C0.1) (g := (mkF m 41 #[rv a1, iv p2, iv p3, iv (own_tn c9), iv (p3 - p2)] [(.int (p3 - p2)), (.int p2), (.ref a6)])) rfl (by rw [hml]; rfl) (argsL := [(.ref a6), (.int p2), (.int (p3 - p2))]) (rest := []) (lenOf pd3 rfl) rfl wf (hb hby d15_41) (fun _ _ => ⟨rfl, e25, (by decide : 0 + 2 ≤ _), (by decide : 0 + 10 ≤ _)⟩))
  obtain ⟨Y34, hS34, hZ34, _⟩ := rebS (s := s) (vm0 := s.vm) (State.WarmedH.since (State.WarmedH.refl s) 0) (by rw [e25]; exact (Nat.zero_le _)) X34 hSq34 hg34 hZ hown
  obtain ⟨b34_0, b34_1, k34_0, rfl, N34q, K34, _, _, _, f34_4, f34_5, f34_6, f34_7, _⟩ := hQ34
  have N34 := Fr.app N24 N34q
  have Kp_K34 : Keep h0 T34.heap [] := (Keep.refl h0 []).trans K34 all0
  have c_K34 := Cq34
  have C_K34 := C0.trans c_K34
  refine finH (Q := r15_6Q Z a1 p2 p3 a6 k8 c9 p11 k16 h0 n0) (rm := (rM 4 2 10 64)) (vm := T34.vm) Bd Y34 hZ34 (own_EW hw) C_K34 hh rfl hS34 (Nat.le_refl _) (some (.ref b34_0)) nofun ⟨b34_0, b34_1, k34_0, rfl, N34, Kp_K34, f34_4, f34_5, f34_6, own_cast H37 H38 f34_7⟩ (by decide) (by decide) fun fs hr => ?_
  show St p e below s₁ m 0 #[rv a1, iv p2, iv p3, un, un] [] _
  refine aN X0 hx hby d15_0 rfl rfl ?_
  refine st15.trans ?_
  refine XS.istoreN X15.here hx rfl (hb hby d15_4) rfl (l' := #[rv a1, iv p2, iv p3, iv (own_tn c9), un]) rfl ?_
  refine iN X15 hx hby d15_5 rfl ?_
  refine iN X15 hx hby d15_6 rfl ?_
  refine iN X15 hx hby d15_7 rfl ?_
  refine st22 _ ?_
  refine iN X22 hx hby d15_11 rfl ?_
  refine XS.ifYes X22.here hx rfl (pc0 := 12) (pc' := 22) rfl (hb hby d15_12) rfl ((if0 _ _).trans (feq hc23).2) (by decide) (by decide) ?_
  refine iN X22 hx hby d15_22 rfl ?_
  refine iN X22 hx hby d15_23 rfl ?_
  refine XS.isub X22.here hx rfl (hb hby d15_24) rfl ?_
  refine XS.istore X22.here hx rfl (hb hby d15_25) rfl (l' := #[rv a1, iv p2, iv p3, iv (own_tn c9), iv (p3 - p2)]) rfl ?_
  refine aN X22 hx hby d15_27 rfl rfl ?_
  refine st24.trans ?_
  refine XS.ifNo X24.here hx rfl (hb hby d15_31) rfl ((if0 _ _).trans (feq (by decide : ¬ ((1:Int32) = (0:Int32)))).1) ?_
  refine aN X24 hx hby d15_34 rfl rfl ?_
  refine st25 _ ?_
  refine iN X25 hx hby d15_38 rfl ?_
  refine iL X25 hx hby d15_39 rfl ?_
  refine st34.trans ?_
  refine XS.goto Y34.here hx rfl (pc0 := 44) (pc' := 57) rfl (hb hby d15_44) (by decide) (by decide) ?_
  exact retA Y34 hx Bd.returns rfl rfl (hb hby d15_57) hr
theorem own_substr (l : Launch) (Z : State) (a0 : Array Value) (hw : HW a0 Z) (ws : List Jvm.Cond) (a1 b1 : Addr) (k1 : ClassId) (c1 : List Int32) (p1 p2 z1:Int32) (vF : Value) (h0 : Heap) (n0 : Nat) (O0 : Old Z n0 h0) (Q0 : xE1 Z h0 a1) (Q1 : xF2 Z h0 a1 (.int (0:Int32))) (Q2 : xF3 Z h0 a1 (.ref b1)) (Q3 : Arv Z h0 b1 k1 .byte (own_tn c1) (own_tb c1) (.int (0:Int32))) (Q4 : Sta Z Z.heap "java/lang/String" "COMPACT_STRINGS" "Z" (.int z1)) (Q5 : ¬ (z1 = (0:Int32))) (Q6 : own_GT c1) (Q7 : Sta Z Z.heap "jdk/internal/util/Preconditions" "SIOOBE_FORMATTER" "Ljava/util/function/BiFunction;" vF) (Q8 : vF.isRef = true) (Q9 : own_rng c1 p1 p2) :
    MFH l y15 cJ42_92 5 (some (.object "java/lang/String")) ws ({ frames := 4, cells := 2, slots := 10, locals := 64 } : Room) Z #[(.ref a1), (.int p1), (.int p2)] h0 (own_strQ Z (own_sub c1 p1 p2) h0 n0) := by
  obtain ⟨hL, r1, r2, r3, _, e1, e2⟩ := own_rfacts Q6.1 Q9
  by_cases g0 : p1 = (0:Int32)
  · by_cases g1 : p2 = (own_tn c1)
    · exact r15_1 l Z a0 hw ws a1 p1 p2 b1 k1 c1 z1 vF h0 n0 O0 Q0 Q1 Q2 Q3 Q4 Q5 Q6 Q7 Q8 r1 r2 r3 g0 g1 (own_s8 hL Q9 g0 g1) (own_s9 hL Q9 g0 g1)
    · by_cases gz : (p2 - p1) = (0:Int32)
      · exact r15_3 l Z a0 hw ws a1 p1 p2 b1 k1 c1 z1 vF h0 n0 O0 Q0 Q1 Q2 Q3 Q4 Q5 Q6 Q7 Q8 r1 r2 r3 g0 g1 gz (own_s10 hL Q9 gz) (own_s11 hL Q9 gz)
      · have gm : ((p1 + (p2 - p1)) - p1) < ((own_tn c1) - p1) := own_s13 hL e1 Q9 g0 g1
        exact r15_4 l Z a0 hw ws a1 p1 p2 b1 k1 c1 z1 vF h0 n0 O0 Q0 Q1 Q2 Q3 Q4 Q5 Q6 Q7 Q8 r1 r2 r3 g0 g1 gz (own_s12 e2 g1) (own_s1 e2 r2) (own_s2 hL e1 Q9) (own_s3 hL e1 Q9) gm (own_s4 hL e1 Q9) (own_s5 _) (own_s6 hL e1 Q9) (own_s7 hL e1 Q9)
  · by_cases gz : (p2 - p1) = (0:Int32)
    · exact r15_2 l Z a0 hw ws a1 p1 p2 b1 k1 c1 z1 vF h0 n0 O0 Q0 Q1 Q2 Q3 Q4 Q5 Q6 Q7 Q8 r1 r2 r3 g0 gz (own_s10 hL Q9 gz) (own_s11 hL Q9 gz)
    · by_cases gm : ((p1 + (p2 - p1)) - p1) < ((own_tn c1) - p1)
      · exact r15_5 l Z a0 hw ws a1 p1 p2 b1 k1 c1 z1 vF h0 n0 O0 Q0 Q1 Q2 Q3 Q4 Q5 Q6 Q7 Q8 r1 r2 r3 g0 gz (own_s1 e2 r2) (own_s2 hL e1 Q9) (own_s3 hL e1 Q9) gm (own_s4 hL e1 Q9) (own_s5 _) (own_s6 hL e1 Q9) (own_s7 hL e1 Q9)
      · exact r15_6 l Z a0 hw ws a1 p1 p2 b1 k1 c1 z1 vF h0 n0 O0 Q0 Q1 Q2 Q3 Q4 Q5 Q6 Q7 Q8 r1 r2 r3 g0 gz (own_s1 e2 r2) (own_s2 hL e1 Q9) (own_s3 hL e1 Q9) gm (own_t2 hL Q9) (own_t4 hL Q9) (own_t5 hL e1 Q9 gm) (own_s6 hL e1 Q9) (own_t7 hL e1 Q9 gm)
theorem pd5 : parseMethodDescriptor "(II)Ljava/lang/String;" = some ⟨[.int, .int], some (.object "java/lang/String")⟩ := by decide +kernel
theorem d14_9 : dk jdk_42_method_91_code 9 .areturn 1 := by decide +kernel
abbrev y14 : MethodName := ⟨"java/lang/String", "substring", "(I)Ljava/lang/String;"⟩
def r14_1Q (Z : State) (a1 a4 : Addr) (k6 : ClassId) (c7 : List Int32) (p9:Int32) (k14 : Value) (h0 : Heap) (n0 : Nat) : QT := fun v h L => ∃ (b18_0 b18_1 : Addr) (k18_0 : ClassId), v = some (.ref b18_0) ∧ Fr n0 L ∧ Keep h0 h [] ∧ xE1 Z h b18_0 ∧ xF3 Z h b18_0 (.ref b18_1) ∧ xF2 Z h b18_0 (.int (0:Int32)) ∧ Arv Z h b18_1 k18_0 .byte (own_tn (own_sub c7 (0:Int32) (own_tn c7))) (own_tb (own_sub c7 (0:Int32) (own_tn c7))) (.int (0:Int32))
theorem r14_1 (l : Launch) (Z : State) (a0 : Array Value) (hw : HW a0 Z) (ws : List Jvm.Cond) (a1 a4 : Addr) (k6 : ClassId) (c7 : List Int32) (p9:Int32) (k14 : Value) (h0 : Heap) (n0 : Nat) (O0 : Old Z n0 h0) (H2 : xE1 Z h0 a1) (H3 : xF2 Z h0 a1 (.int (0:Int32))) (H5 : xF3 Z h0 a1 (.ref a4)) (H8 : Arv Z h0 a4 k6 .byte (own_tn c7) (own_tb c7) (.int (0:Int32))) (H10 : Sta Z Z.heap "java/lang/String" "COMPACT_STRINGS" "Z" (.int p9)) (hc11 : ¬ (p9 = (0:Int32))) (H12 : own_GT c7) (H15 : Sta Z Z.heap "jdk/internal/util/Preconditions" "SIOOBE_FORMATTER" "Ljava/util/function/BiFunction;" k14) (H16 : k14.isRef = true) (hc17 : own_rng c7 (0:Int32) (own_tn c7)) :
    MFH l y14 jdk_42_method_91_code 2 (some (.object "java/lang/String")) ws (rM 5 2 10 80) Z #[(.ref a1), (.int (0:Int32))] h0 (r14_1Q Z a1 a4 k6 c7 p9 k14 h0 n0) := by
  refine own_inH (pq pn5) #[rv a1, iv (0:Int32)] (fun _ => by first | (simp [entryFrame, mkF, argsToLocals, Value.category]; done) | rfl) ?_
  intro p e s m below meth c s₁ Bd hx hby hml hown hnm hZ hh C0 e0 X0
  have N0 := Fr.nil n0
  obtain ⟨_, _, q13a, _, q13c⟩ := isOf hZ e0 H2
  obtain ⟨_, _, _, X13, hQ13, st13⟩ := fl X0 (X0.virtualBack hx (y := y8) (z := y8) hown (mo hZ hw 41 rfl) (mo hZ hw 42 rfl) (notFace_of_selects (args := #[]) (mo hZ hw 44 rfl)) (mo hZ hw 44 rfl) (mo hZ hw 43 rfl) (by decide) (own_lenB (W := 2) n0 hZ hw (ow hw 10 rfl) H2 H5 H3 H8 H12 (H10.ext O0.2) hc11 (by decide) (by decide)) q13a q13c (g := (mkF m 3 #[rv a1, iv (0:Int32)] [(.ref a1), (.int (0:Int32)), (.ref a1)])) rfl (by rw [hml]; rfl) (Steps.refl _) (argsL := []) (rest := [(.int (0:Int32)), (.ref a1)]) (lenOf pd23 rfl) rfl wf (hb hby d14_3) (fun _ _ => ⟨rfl, e0, (by decide : 0 + 0 ≤ _), (by decide : 0 + 0 ≤ _)⟩))
  obtain ⟨rfl, N13q, e13⟩ := hQ13
  have N13 := Fr.app N0 N13q
  obtain ⟨_, _, q18a, _, q18c⟩ := isOf hZ e13 H2
  obtain ⟨T18, _, _, X18, hSq18, hg18, Cq18, hQ18, st18⟩ := flH X13 (X13.virtualBackS hx (y := y15) (z := y15) hown (mo hZ hw 72 rfl) (mo hZ hw 73 rfl) (notFace_of_selects (args := #[]) (mo hZ hw 75 rfl)) (mo hZ hw 75 rfl) (mo hZ hw 74 rfl) (by decide) (backOfSH (s := s) (vm0 := s.vm) (W := 0) (own_substr l Z a0 hw [] a1 a4 k6 c7 (0:Int32) (own_tn c7) p9 k14 h0 n0 O0 H2 H3 H5 H8 H10 hc11 H12 H15 H16 hc17) hZ (ow hw 76 rfl) (ow hw 9 rfl) (by decide) (by decide) (own_EW hw) C0.1) q18a q18c (g := (mkF m 6 #[rv a1, iv (0:Int32)] [(.int (own_tn c7)), (.int (0:Int32)), (.ref a1)])) rfl (by rw [hml]; rfl) (Steps.refl _) (argsL := [(.int (0:Int32)), (.int (own_tn c7))]) (rest := []) (lenOf pd5 rfl) rfl wf (hb hby d14_6) (fun _ _ => ⟨rfl, e13, (by decide : 0 + 2 ≤ _), (by decide : 0 + 10 ≤ _)⟩))
  obtain ⟨Y18, hS18, hZ18, _⟩ := rebS (s := s) (vm0 := s.vm) (State.WarmedH.since (State.WarmedH.refl s) 0) (by rw [e13]; exact (Nat.zero_le _)) X18 hSq18 hg18 hZ hown
  obtain ⟨b18_0, b18_1, k18_0, rfl, N18q, K18, f18_1, f18_2, f18_3, f18_4⟩ := hQ18
  have N18 := Fr.app N13 N18q
  have Kp_K18 : Keep h0 T18.heap [] := (Keep.refl h0 []).trans K18 all0
  have c_K18 := Cq18
  have C_K18 := C0.trans c_K18
  refine finH (Q := r14_1Q Z a1 a4 k6 c7 p9 k14 h0 n0) (rm := (rM 5 2 10 80)) (vm := T18.vm) Bd Y18 hZ18 (own_EW hw) C_K18 hh rfl hS18 (Nat.le_refl _) (some (.ref b18_0)) nofun ⟨b18_0, b18_1, k18_0, rfl, N18, Kp_K18, f18_1, f18_2, f18_3, f18_4⟩ (by decide) (by decide) fun fs hr => ?_
  show St p e below s₁ m 0 #[rv a1, iv (0:Int32)] [] _
  refine aN X0 hx hby d14_0 rfl rfl ?_
  refine iN X0 hx hby d14_1 rfl ?_
  refine aN X0 hx hby d14_2 rfl rfl ?_
  refine st13.trans ?_
  refine st18.trans ?_
  exact retA Y18 hx Bd.returns rfl rfl (hb hby d14_9) hr
theorem pd7 : parseMethodDescriptor "(I)Ljava/lang/String;" = some ⟨[.int], some (.object "java/lang/String")⟩ := by decide +kernel
theorem d3_62 : dk cP22_2 62 .aastore 1 := by decide +kernel
theorem d3_63 : dk cP22_2 63 (.aload_n 1) 1 := by decide +kernel
theorem d3_64 : dk cP22_2 64 .areturn 1 := by decide +kernel
theorem d4_13 : dk cP22_6 13 (.iinc 1 1) 3 := by decide +kernel
theorem d4_16 : dk cP22_6 16 (.aload_n 0) 1 := by decide +kernel
theorem d4_17 : dk cP22_6 17 (.bipush 44) 2 := by decide +kernel
theorem d4_19 : dk cP22_6 19 (.iload_n 2) 1 := by decide +kernel
theorem d4_20 : dk cP22_6 20 (.iconst 1) 1 := by decide +kernel
theorem d4_21 : dk cP22_6 21 .iadd 1 := by decide +kernel
theorem d4_22 : dk cP22_6 22 (.invokevirtual 15) 3 := by decide +kernel
theorem d4_25 : dk cP22_6 25 (.istore_n 2) 1 := by decide +kernel
theorem d4_26 : dk cP22_6 26 (.goto (-17)) 3 := by decide +kernel
def r4_2Q (Z : State) (a1 a4 : Addr) (k6 : ClassId) (c7 : List Int32) (p9 p14 p20:Int32) (h0 : Heap) (n0 : Nat) : QT := fun v h L => v = some (.int (1:Int32)) ∧ Fr n0 L ∧ h = h0
theorem r4_2 (l : Launch) (Z : State) (a0 : Array Value) (hw : HW a0 Z) (ws : List Jvm.Cond) (a1 a4 : Addr) (k6 : ClassId) (c7 : List Int32) (p9 p14 p20:Int32) (h0 : Heap) (n0 : Nat) (O0 : Old Z n0 h0) (H2 : xE1 Z h0 a1) (H3 : xF2 Z h0 a1 (.int (0:Int32))) (H5 : xF3 Z h0 a1 (.ref a4)) (H8 : Arv Z h0 a4 k6 .byte (own_tn c7) (own_tb c7) (.int (0:Int32))) (H10 : Sta Z Z.heap "java/lang/String" "COMPACT_STRINGS" "Z" (.int p9)) (hc11 : ¬ (p9 = (0:Int32))) (H12 : own_GT c7) (hc13 : own_po c7 (0:Int32)) (H15 : (own_ix c7 (0:Int32)) = p14) (hc17 : ¬ (p14 < (0:Int32))) (hc18 : own_po c7 (p14 + (1:Int32))) (H21 : (own_ix c7 (p14 + (1:Int32))) = p20) (hc22 : p20 < (0:Int32)) :
    MF l y4 cP22_6 3 (some .int) ws (rM 4 0 0 59) Z #[(.ref a1)] h0 (r4_2Q Z a1 a4 k6 c7 p9 p14 p20 h0 n0) := by
  refine own_in (pq pn1) #[rv a1, un, un] (fun _ => by first | (simp [entryFrame, mkF, argsToLocals, Value.category]; done) | rfl) ?_
  intro p e s m below meth c s₁ Bd hx hby hml hown hnm hZ e0 X0
  have N0 := Fr.nil n0
  obtain ⟨_, _, _, X16, hQ16, st16⟩ := cV X0 hx hZ hw hown (y := y5) 23 rfl 24 rfl 26 rfl 25 rfl 27 rfl 9 rfl (by decide) (W := 0) (r5_1 l Z a0 hw [] a1 a4 k6 c7 p9 p14 h0 n0 O0 H2 H3 H5 H8 H10 hc11 H12 hc13 H15) (by decide) (by decide) H2 e0 (g := (mkF m 5 #[rv a1, iv (0:Int32), un] [(.int (44:Int32)), (.ref a1)])) rfl (by rw [hml]; rfl) (argsL := [(.int (44:Int32))]) (rest := []) (lenOf pd19 rfl) rfl wf (hb hby d4_5) rfl (by decide) (by decide)
  obtain ⟨rfl, N16q, e16⟩ := hQ16
  have N16 := Fr.app N0 N16q
  obtain ⟨T19, _, _, X19, hQ19, st19⟩ := cV X16 hx hZ hw hown (y := y6) 124 rfl 29 rfl 31 rfl 30 rfl 32 rfl 9 rfl (by decide) (W := 0) (own_idx l Z a0 hw [] a1 a4 k6 c7 (p14 + (1:Int32)) p9 h0 n0 O0 H2 H10 hc11 H3 H5 H8 H12 hc18) (by decide) (by decide) H2 e16 (g := (mkF m 22 #[rv a1, iv (1:Int32), iv p14] [(.int (p14 + (1:Int32))), (.int (44:Int32)), (.ref a1)])) rfl (by rw [hml]; rfl) (argsL := [(.int (44:Int32)), (.int (p14 + (1:Int32)))]) (rest := []) (lenOf pd14 rfl) rfl wf (hb hby d4_22) rfl (by decide) (by decide)
  obtain ⟨rfl, N19q, e19⟩ := hQ19
  have N19 := Fr.app N16 N19q
  refine fin (Q := r4_2Q Z a1 a4 k6 c7 p9 p14 p20 h0 n0) (rm := (rM 4 0 0 59)) Bd X19 e19 (some (.int (1:Int32))) nofun ⟨rfl, N19, rfl⟩ (by decide) (by decide) fun fs hr => ?_
  show St p e below s₁ m 0 #[rv a1, un, un] [] _
  refine iC X0 hx hby d4_0 ?_
  refine XS.istoreN X0.here hx rfl (hb hby d4_1) rfl (l' := #[rv a1, iv (0:Int32), un]) rfl ?_
  refine aN X0 hx hby d4_2 rfl rfl ?_
  refine XS.bipush X0.here hx rfl (hb hby d4_3) ?_
  refine st16.trans ?_
  refine XS.istoreN X16.here hx rfl (hb hby d4_8) rfl (l' := #[rv a1, iv (0:Int32), iv p14]) rfl ?_
  refine iN X16 hx hby d4_9 rfl ?_
  refine XS.ifNo X16.here hx rfl (hb hby d4_10) rfl ((if0 _ _).trans (flt hc17).1) ?_
  refine XS.iinc X16.here hx rfl (hb hby d4_13) rfl (l' := #[rv a1, iv (1:Int32), iv p14]) rfl ?_
  refine aN X16 hx hby d4_16 rfl rfl ?_
  refine XS.bipush X16.here hx rfl (hb hby d4_17) ?_
  refine iN X16 hx hby d4_19 rfl ?_
  refine iC X16 hx hby d4_20 ?_
  refine XS.iadd X16.here hx rfl (hb hby d4_21) rfl ?_
  refine st19.trans ?_
  show St p e below T19 m 25 #[rv a1, iv (1:Int32), iv p14] [(.int (own_ix c7 (p14 + (1:Int32))))] _
  rw [H21]
  refine XS.istoreN X19.here hx rfl (hb hby d4_25) rfl (l' := #[rv a1, iv (1:Int32), iv p20]) rfl ?_
  refine XS.goto X19.here hx rfl (pc0 := 26) (pc' := 9) rfl (hb hby d4_26) (by decide) (by decide) ?_
  refine iN X19 hx hby d4_9 rfl ?_
  refine XS.ifYes X19.here hx rfl (pc0 := 10) (pc' := 29) rfl (hb hby d4_10) rfl ((if0 _ _).trans (tlt hc22).1) (by decide) (by decide) ?_
  refine iN X19 hx hby d4_29 rfl ?_
  exact retI X19 hx Bd.returns (hb hby d4_30) hr
theorem d3_22 : dk cP22_2 22 (.aload_n 0) 1 := by decide +kernel
theorem d3_23 : dk cP22_2 23 (.bipush 44) 2 := by decide +kernel
theorem d3_25 : dk cP22_2 25 (.iload_n 2) 1 := by decide +kernel
theorem d3_26 : dk cP22_2 26 (.invokevirtual 15) 3 := by decide +kernel
theorem d3_29 : dk cP22_2 29 (.istore 4) 2 := by decide +kernel
theorem d3_31 : dk cP22_2 31 (.aload_n 1) 1 := by decide +kernel
theorem d3_32 : dk cP22_2 32 (.iload_n 3) 1 := by decide +kernel
theorem d3_33 : dk cP22_2 33 (.aload_n 0) 1 := by decide +kernel
theorem d3_34 : dk cP22_2 34 (.iload_n 2) 1 := by decide +kernel
theorem d3_35 : dk cP22_2 35 (.iload 4) 2 := by decide +kernel
theorem d3_37 : dk cP22_2 37 (.invokevirtual 19) 3 := by decide +kernel
theorem d3_40 : dk cP22_2 40 .aastore 1 := by decide +kernel
theorem d3_41 : dk cP22_2 41 (.iload 4) 2 := by decide +kernel
theorem d3_43 : dk cP22_2 43 (.iconst 1) 1 := by decide +kernel
theorem d3_44 : dk cP22_2 44 .iadd 1 := by decide +kernel
theorem d3_45 : dk cP22_2 45 (.istore_n 2) 1 := by decide +kernel
theorem d3_46 : dk cP22_2 46 (.iinc 3 1) 3 := by decide +kernel
theorem d3_49 : dk cP22_2 49 (.goto (-35)) 3 := by decide +kernel
def r14_2Q (Z : State) (a1 : Addr) (p2:Int32) (a5 : Addr) (k7 : ClassId) (c8 : List Int32) (p10:Int32) (k15 : Value) (h0 : Heap) (n0 : Nat) : QT := fun v h L => ∃ (b19_0 b19_1 : Addr) (k19_0 : ClassId), v = some (.ref b19_0) ∧ Fr n0 L ∧ Keep h0 h [] ∧ xE1 Z h b19_0 ∧ xF3 Z h b19_0 (.ref b19_1) ∧ xF2 Z h b19_0 (.int (0:Int32)) ∧ Arv Z h b19_1 k19_0 .byte (own_tn (own_sub c8 p2 (own_tn c8))) (own_tb (own_sub c8 p2 (own_tn c8))) (.int (0:Int32))
theorem r14_2 (l : Launch) (Z : State) (a0 : Array Value) (hw : HW a0 Z) (ws : List Jvm.Cond) (a1 : Addr) (p2:Int32) (a5 : Addr) (k7 : ClassId) (c8 : List Int32) (p10:Int32) (k15 : Value) (h0 : Heap) (n0 : Nat) (O0 : Old Z n0 h0) (H3 : xE1 Z h0 a1) (H4 : xF2 Z h0 a1 (.int (0:Int32))) (H6 : xF3 Z h0 a1 (.ref a5)) (H9 : Arv Z h0 a5 k7 .byte (own_tn c8) (own_tb c8) (.int (0:Int32))) (H11 : Sta Z Z.heap "java/lang/String" "COMPACT_STRINGS" "Z" (.int p10)) (hc12 : ¬ (p10 = (0:Int32))) (H13 : own_GT c8) (H16 : Sta Z Z.heap "jdk/internal/util/Preconditions" "SIOOBE_FORMATTER" "Ljava/util/function/BiFunction;" k15) (H17 : k15.isRef = true) (hc18 : own_rng c8 p2 (own_tn c8)) :
    MFH l y14 jdk_42_method_91_code 2 (some (.object "java/lang/String")) ws (rM 5 2 10 80) Z #[(.ref a1), (.int p2)] h0 (r14_2Q Z a1 p2 a5 k7 c8 p10 k15 h0 n0) := by
  refine own_inH (pq pn5) #[rv a1, iv p2] (fun _ => by first | (simp [entryFrame, mkF, argsToLocals, Value.category]; done) | rfl) ?_
  intro p e s m below meth c s₁ Bd hx hby hml hown hnm hZ hh C0 e0 X0
  have N0 := Fr.nil n0
  obtain ⟨_, _, q14a, _, q14c⟩ := isOf hZ e0 H3
  obtain ⟨_, _, _, X14, hQ14, st14⟩ := fl X0 (X0.virtualBack hx (y := y8) (z := y8) hown (mo hZ hw 41 rfl) (mo hZ hw 42 rfl) (notFace_of_selects (args := #[]) (mo hZ hw 44 rfl)) (mo hZ hw 44 rfl) (mo hZ hw 43 rfl) (by decide) (own_lenB (W := 2) n0 hZ hw (ow hw 10 rfl) H3 H6 H4 H9 H13 (H11.ext O0.2) hc12 (by decide) (by decide)) q14a q14c (g := (mkF m 3 #[rv a1, iv p2] [(.ref a1), (.int p2), (.ref a1)])) rfl (by rw [hml]; rfl) (Steps.refl _) (argsL := []) (rest := [(.int p2), (.ref a1)]) (lenOf pd23 rfl) rfl wf (hb hby d14_3) (fun _ _ => ⟨rfl, e0, (by decide : 0 + 0 ≤ _), (by decide : 0 + 0 ≤ _)⟩))
  obtain ⟨rfl, N14q, e14⟩ := hQ14
  have N14 := Fr.app N0 N14q
  obtain ⟨_, _, q19a, _, q19c⟩ := isOf hZ e14 H3
  obtain ⟨T19, _, _, X19, hSq19, hg19, Cq19, hQ19, st19⟩ := flH X14 (X14.virtualBackS hx (y := y15) (z := y15) hown (mo hZ hw 72 rfl) (mo hZ hw 73 rfl) (notFace_of_selects (args := #[]) (mo hZ hw 75 rfl)) (mo hZ hw 75 rfl) (mo hZ hw 74 rfl) (by decide) (backOfSH (s := s) (vm0 := s.vm) (W := 0) (own_substr l Z a0 hw [] a1 a5 k7 c8 p2 (own_tn c8) p10 k15 h0 n0 O0 H3 H4 H6 H9 H11 hc12 H13 H16 H17 hc18) hZ (ow hw 76 rfl) (ow hw 9 rfl) (by decide) (by decide) (own_EW hw) C0.1) q19a q19c (g := (mkF m 6 #[rv a1, iv p2] [(.int (own_tn c8)), (.int p2), (.ref a1)])) rfl (by rw [hml]; rfl) (Steps.refl _) (argsL := [(.int p2), (.int (own_tn c8))]) (rest := []) (lenOf pd5 rfl) rfl wf (hb hby d14_6) (fun _ _ => ⟨rfl, e14, (by decide : 0 + 2 ≤ _), (by decide : 0 + 10 ≤ _)⟩))
  obtain ⟨Y19, hS19, hZ19, _⟩ := rebS (s := s) (vm0 := s.vm) (State.WarmedH.since (State.WarmedH.refl s) 0) (by rw [e14]; exact (Nat.zero_le _)) X19 hSq19 hg19 hZ hown
  obtain ⟨b19_0, b19_1, k19_0, rfl, N19q, K19, f19_1, f19_2, f19_3, f19_4⟩ := hQ19
  have N19 := Fr.app N14 N19q
  have Kp_K19 : Keep h0 T19.heap [] := (Keep.refl h0 []).trans K19 all0
  have c_K19 := Cq19
  have C_K19 := C0.trans c_K19
  refine finH (Q := r14_2Q Z a1 p2 a5 k7 c8 p10 k15 h0 n0) (rm := (rM 5 2 10 80)) (vm := T19.vm) Bd Y19 hZ19 (own_EW hw) C_K19 hh rfl hS19 (Nat.le_refl _) (some (.ref b19_0)) nofun ⟨b19_0, b19_1, k19_0, rfl, N19, Kp_K19, f19_1, f19_2, f19_3, f19_4⟩ (by decide) (by decide) fun fs hr => ?_
  show St p e below s₁ m 0 #[rv a1, iv p2] [] _
  refine aN X0 hx hby d14_0 rfl rfl ?_
  refine iN X0 hx hby d14_1 rfl ?_
  refine aN X0 hx hby d14_2 rfl rfl ?_
  refine st14.trans ?_
  refine st19.trans ?_
  exact retA Y19 hx Bd.returns rfl rfl (hb hby d14_9) hr
def r4_3Q (Z : State) (a1 a4 : Addr) (k6 : ClassId) (c7 : List Int32) (p9 p14 p20 p25:Int32) (h0 : Heap) (n0 : Nat) : QT := fun v h L => v = some (.int (2:Int32)) ∧ Fr n0 L ∧ h = h0
theorem r4_3 (l : Launch) (Z : State) (a0 : Array Value) (hw : HW a0 Z) (ws : List Jvm.Cond) (a1 a4 : Addr) (k6 : ClassId) (c7 : List Int32) (p9 p14 p20 p25:Int32) (h0 : Heap) (n0 : Nat) (O0 : Old Z n0 h0) (H2 : xE1 Z h0 a1) (H3 : xF2 Z h0 a1 (.int (0:Int32))) (H5 : xF3 Z h0 a1 (.ref a4)) (H8 : Arv Z h0 a4 k6 .byte (own_tn c7) (own_tb c7) (.int (0:Int32))) (H10 : Sta Z Z.heap "java/lang/String" "COMPACT_STRINGS" "Z" (.int p9)) (hc11 : ¬ (p9 = (0:Int32))) (H12 : own_GT c7) (hc13 : own_po c7 (0:Int32)) (H15 : (own_ix c7 (0:Int32)) = p14) (hc17 : ¬ (p14 < (0:Int32))) (hc18 : own_po c7 (p14 + (1:Int32))) (H21 : (own_ix c7 (p14 + (1:Int32))) = p20) (hc22 : ¬ (p20 < (0:Int32))) (hc23 : own_po c7 (p20 + (1:Int32))) (H26 : (own_ix c7 (p20 + (1:Int32))) = p25) (hc27 : p25 < (0:Int32)) :
    MF l y4 cP22_6 3 (some .int) ws (rM 4 0 0 59) Z #[(.ref a1)] h0 (r4_3Q Z a1 a4 k6 c7 p9 p14 p20 p25 h0 n0) := by
  refine own_in (pq pn1) #[rv a1, un, un] (fun _ => by first | (simp [entryFrame, mkF, argsToLocals, Value.category]; done) | rfl) ?_
  intro p e s m below meth c s₁ Bd hx hby hml hown hnm hZ e0 X0
  have N0 := Fr.nil n0
  obtain ⟨_, _, _, X16, hQ16, st16⟩ := cV X0 hx hZ hw hown (y := y5) 23 rfl 24 rfl 26 rfl 25 rfl 27 rfl 9 rfl (by decide) (W := 0) (r5_1 l Z a0 hw [] a1 a4 k6 c7 p9 p14 h0 n0 O0 H2 H3 H5 H8 H10 hc11 H12 hc13 H15) (by decide) (by decide) H2 e0 (g := (mkF m 5 #[rv a1, iv (0:Int32), un] [(.int (44:Int32)), (.ref a1)])) rfl (by rw [hml]; rfl) (argsL := [(.int (44:Int32))]) (rest := []) (lenOf pd19 rfl) rfl wf (hb hby d4_5) rfl (by decide) (by decide)
  obtain ⟨rfl, N16q, e16⟩ := hQ16
  have N16 := Fr.app N0 N16q
  obtain ⟨T19, _, _, X19, hQ19, st19⟩ := cV X16 hx hZ hw hown (y := y6) 124 rfl 29 rfl 31 rfl 30 rfl 32 rfl 9 rfl (by decide) (W := 0) (own_idx l Z a0 hw [] a1 a4 k6 c7 (p14 + (1:Int32)) p9 h0 n0 O0 H2 H10 hc11 H3 H5 H8 H12 hc18) (by decide) (by decide) H2 e16 (g := (mkF m 22 #[rv a1, iv (1:Int32), iv p14] [(.int (p14 + (1:Int32))), (.int (44:Int32)), (.ref a1)])) rfl (by rw [hml]; rfl) (argsL := [(.int (44:Int32)), (.int (p14 + (1:Int32)))]) (rest := []) (lenOf pd14 rfl) rfl wf (hb hby d4_22) rfl (by decide) (by decide)
  obtain ⟨rfl, N19q, e19⟩ := hQ19
  have N19 := Fr.app N16 N19q
  obtain ⟨T24, _, _, X24, hQ24, st24⟩ := cV X19 hx hZ hw hown (y := y6) 124 rfl 29 rfl 31 rfl 30 rfl 32 rfl 9 rfl (by decide) (W := 0) (own_idx l Z a0 hw [] a1 a4 k6 c7 (p20 + (1:Int32)) p9 h0 n0 O0 H2 H10 hc11 H3 H5 H8 H12 hc23) (by decide) (by decide) H2 e19 (g := (mkF m 22 #[rv a1, iv (2:Int32), iv p20] [(.int (p20 + (1:Int32))), (.int (44:Int32)), (.ref a1)])) rfl (by rw [hml]; rfl) (argsL := [(.int (44:Int32)), (.int (p20 + (1:Int32)))]) (rest := []) (lenOf pd14 rfl) rfl wf (hb hby d4_22) rfl (by decide) (by decide)
  obtain ⟨rfl, N24q, e24⟩ := hQ24
  have N24 := Fr.app N19 N24q
  refine fin (Q := r4_3Q Z a1 a4 k6 c7 p9 p14 p20 p25 h0 n0) (rm := (rM 4 0 0 59)) Bd X24 e24 (some (.int (2:Int32))) nofun ⟨rfl, N24, rfl⟩ (by decide) (by decide) fun fs hr => ?_
  show St p e below s₁ m 0 #[rv a1, un, un] [] _
  refine iC X0 hx hby d4_0 ?_
  refine XS.istoreN X0.here hx rfl (hb hby d4_1) rfl (l' := #[rv a1, iv (0:Int32), un]) rfl ?_
  refine aN X0 hx hby d4_2 rfl rfl ?_
  refine XS.bipush X0.here hx rfl (hb hby d4_3) ?_
  refine st16.trans ?_
  refine XS.istoreN X16.here hx rfl (hb hby d4_8) rfl (l' := #[rv a1, iv (0:Int32), iv p14]) rfl ?_
  refine iN X16 hx hby d4_9 rfl ?_
  refine XS.ifNo X16.here hx rfl (hb hby d4_10) rfl ((if0 _ _).trans (flt hc17).1) ?_
  refine XS.iinc X16.here hx rfl (hb hby d4_13) rfl (l' := #[rv a1, iv (1:Int32), iv p14]) rfl ?_
  refine aN X16 hx hby d4_16 rfl rfl ?_
  refine XS.bipush X16.here hx rfl (hb hby d4_17) ?_
  refine iN X16 hx hby d4_19 rfl ?_
  refine iC X16 hx hby d4_20 ?_
  refine XS.iadd X16.here hx rfl (hb hby d4_21) rfl ?_
  refine st19.trans ?_
  show St p e below T19 m 25 #[rv a1, iv (1:Int32), iv p14] [(.int (own_ix c7 (p14 + (1:Int32))))] _
  rw [H21]
  refine XS.istoreN X19.here hx rfl (hb hby d4_25) rfl (l' := #[rv a1, iv (1:Int32), iv p20]) rfl ?_
  refine XS.goto X19.here hx rfl (pc0 := 26) (pc' := 9) rfl (hb hby d4_26) (by decide) (by decide) ?_
  refine iN X19 hx hby d4_9 rfl ?_
  refine XS.ifNo X19.here hx rfl (hb hby d4_10) rfl ((if0 _ _).trans (flt hc22).1) ?_
  refine XS.iinc X19.here hx rfl (hb hby d4_13) rfl (l' := #[rv a1, iv (2:Int32), iv p20]) rfl ?_
  refine aN X19 hx hby d4_16 rfl rfl ?_
  refine XS.bipush X19.here hx rfl (hb hby d4_17) ?_
  refine iN X19 hx hby d4_19 rfl ?_
  refine iC X19 hx hby d4_20 ?_
  refine XS.iadd X19.here hx rfl (hb hby d4_21) rfl ?_
  show St p e below T19 m 22 #[rv a1, iv (2:Int32), iv p20] [(.int (p20 + (1:Int32))), (.int (44:Int32)), (.ref a1)] _
  refine st24.trans ?_
  show St p e below T24 m 25 #[rv a1, iv (2:Int32), iv p20] [(.int (own_ix c7 (p20 + (1:Int32))))] _
  rw [H26]
  refine XS.istoreN X24.here hx rfl (hb hby d4_25) rfl (l' := #[rv a1, iv (2:Int32), iv p25]) rfl ?_
  refine XS.goto X24.here hx rfl (pc0 := 26) (pc' := 9) rfl (hb hby d4_26) (by decide) (by decide) ?_
  refine iN X24 hx hby d4_9 rfl ?_
  refine XS.ifYes X24.here hx rfl (pc0 := 10) (pc' := 29) rfl (hb hby d4_10) rfl ((if0 _ _).trans (tlt hc27).1) (by decide) (by decide) ?_
  refine iN X24 hx hby d4_29 rfl ?_
  exact retI X24 hx Bd.returns (hb hby d4_30) hr
def r4_4Q (Z : State) (a1 a4 : Addr) (k6 : ClassId) (c7 : List Int32) (p9 p14 p20 p25 p30:Int32) (h0 : Heap) (n0 : Nat) : QT := fun v h L => v = some (.int (3:Int32)) ∧ Fr n0 L ∧ h = h0
theorem r4_4 (l : Launch) (Z : State) (a0 : Array Value) (hw : HW a0 Z) (ws : List Jvm.Cond) (a1 a4 : Addr) (k6 : ClassId) (c7 : List Int32) (p9 p14 p20 p25 p30:Int32) (h0 : Heap) (n0 : Nat) (O0 : Old Z n0 h0) (H2 : xE1 Z h0 a1) (H3 : xF2 Z h0 a1 (.int (0:Int32))) (H5 : xF3 Z h0 a1 (.ref a4)) (H8 : Arv Z h0 a4 k6 .byte (own_tn c7) (own_tb c7) (.int (0:Int32))) (H10 : Sta Z Z.heap "java/lang/String" "COMPACT_STRINGS" "Z" (.int p9)) (hc11 : ¬ (p9 = (0:Int32))) (H12 : own_GT c7) (hc13 : own_po c7 (0:Int32)) (H15 : (own_ix c7 (0:Int32)) = p14) (hc17 : ¬ (p14 < (0:Int32))) (hc18 : own_po c7 (p14 + (1:Int32))) (H21 : (own_ix c7 (p14 + (1:Int32))) = p20) (hc22 : ¬ (p20 < (0:Int32))) (hc23 : own_po c7 (p20 + (1:Int32))) (H26 : (own_ix c7 (p20 + (1:Int32))) = p25) (hc27 : ¬ (p25 < (0:Int32))) (hc28 : own_po c7 (p25 + (1:Int32))) (H31 : (own_ix c7 (p25 + (1:Int32))) = p30) (hc32 : p30 < (0:Int32)) :
    MF l y4 cP22_6 3 (some .int) ws (rM 4 0 0 59) Z #[(.ref a1)] h0 (r4_4Q Z a1 a4 k6 c7 p9 p14 p20 p25 p30 h0 n0) := by
  refine own_in (pq pn1) #[rv a1, un, un] (fun _ => by first | (simp [entryFrame, mkF, argsToLocals, Value.category]; done) | rfl) ?_
  intro p e s m below meth c s₁ Bd hx hby hml hown hnm hZ e0 X0
  have N0 := Fr.nil n0
  obtain ⟨_, _, _, X16, hQ16, st16⟩ := cV X0 hx hZ hw hown (y := y5) 23 rfl 24 rfl 26 rfl 25 rfl 27 rfl 9 rfl (by decide) (W := 0) (r5_1 l Z a0 hw [] a1 a4 k6 c7 p9 p14 h0 n0 O0 H2 H3 H5 H8 H10 hc11 H12 hc13 H15) (by decide) (by decide) H2 e0 (g := (mkF m 5 #[rv a1, iv (0:Int32), un] [(.int (44:Int32)), (.ref a1)])) rfl (by rw [hml]; rfl) (argsL := [(.int (44:Int32))]) (rest := []) (lenOf pd19 rfl) rfl wf (hb hby d4_5) rfl (by decide) (by decide)
  obtain ⟨rfl, N16q, e16⟩ := hQ16
  have N16 := Fr.app N0 N16q
  obtain ⟨T19, _, _, X19, hQ19, st19⟩ := cV X16 hx hZ hw hown (y := y6) 124 rfl 29 rfl 31 rfl 30 rfl 32 rfl 9 rfl (by decide) (W := 0) (own_idx l Z a0 hw [] a1 a4 k6 c7 (p14 + (1:Int32)) p9 h0 n0 O0 H2 H10 hc11 H3 H5 H8 H12 hc18) (by decide) (by decide) H2 e16 (g := (mkF m 22 #[rv a1, iv (1:Int32), iv p14] [(.int (p14 + (1:Int32))), (.int (44:Int32)), (.ref a1)])) rfl (by rw [hml]; rfl) (argsL := [(.int (44:Int32)), (.int (p14 + (1:Int32)))]) (rest := []) (lenOf pd14 rfl) rfl wf (hb hby d4_22) rfl (by decide) (by decide)
  obtain ⟨rfl, N19q, e19⟩ := hQ19
  have N19 := Fr.app N16 N19q
  obtain ⟨T24, _, _, X24, hQ24, st24⟩ := cV X19 hx hZ hw hown (y := y6) 124 rfl 29 rfl 31 rfl 30 rfl 32 rfl 9 rfl (by decide) (W := 0) (own_idx l Z a0 hw [] a1 a4 k6 c7 (p20 + (1:Int32)) p9 h0 n0 O0 H2 H10 hc11 H3 H5 H8 H12 hc23) (by decide) (by decide) H2 e19 (g := (mkF m 22 #[rv a1, iv (2:Int32), iv p20] [(.int (p20 + (1:Int32))), (.int (44:Int32)), (.ref a1)])) rfl (by rw [hml]; rfl) (argsL := [(.int (44:Int32)), (.int (p20 + (1:Int32)))]) (rest := []) (lenOf pd14 rfl) rfl wf (hb hby d4_22) rfl (by decide) (by decide)
  obtain ⟨rfl, N24q, e24⟩ := hQ24
  have N24 := Fr.app N19 N24q
  obtain ⟨T29, _, _, X29, hQ29, st29⟩ := cV X24 hx hZ hw hown (y := y6) 124 rfl 29 rfl 31 rfl 30 rfl 32 rfl 9 rfl (by decide) (W := 0) (own_idx l Z a0 hw [] a1 a4 k6 c7 (p25 + (1:Int32)) p9 h0 n0 O0 H2 H10 hc11 H3 H5 H8 H12 hc28) (by decide) (by decide) H2 e24 (g := (mkF m 22 #[rv a1, iv (3:Int32), iv p25] [(.int (p25 + (1:Int32))), (.int (44:Int32)), (.ref a1)])) rfl (by rw [hml]; rfl) (argsL := [(.int (44:Int32)), (.int (p25 + (1:Int32)))]) (rest := []) (lenOf pd14 rfl) rfl wf (hb hby d4_22) rfl (by decide) (by decide)
  obtain ⟨rfl, N29q, e29⟩ := hQ29
  have N29 := Fr.app N24 N29q
  refine fin (Q := r4_4Q Z a1 a4 k6 c7 p9 p14 p20 p25 p30 h0 n0) (rm := (rM 4 0 0 59)) Bd X29 e29 (some (.int (3:Int32))) nofun ⟨rfl, N29, rfl⟩ (by decide) (by decide) fun fs hr => ?_
  show St p e below s₁ m 0 #[rv a1, un, un] [] _
  refine iC X0 hx hby d4_0 ?_
  refine XS.istoreN X0.here hx rfl (hb hby d4_1) rfl (l' := #[rv a1, iv (0:Int32), un]) rfl ?_
  refine aN X0 hx hby d4_2 rfl rfl ?_
  refine XS.bipush X0.here hx rfl (hb hby d4_3) ?_
  refine st16.trans ?_
  refine XS.istoreN X16.here hx rfl (hb hby d4_8) rfl (l' := #[rv a1, iv (0:Int32), iv p14]) rfl ?_
  refine iN X16 hx hby d4_9 rfl ?_
  refine XS.ifNo X16.here hx rfl (hb hby d4_10) rfl ((if0 _ _).trans (flt hc17).1) ?_
  refine XS.iinc X16.here hx rfl (hb hby d4_13) rfl (l' := #[rv a1, iv (1:Int32), iv p14]) rfl ?_
  refine aN X16 hx hby d4_16 rfl rfl ?_
  refine XS.bipush X16.here hx rfl (hb hby d4_17) ?_
  refine iN X16 hx hby d4_19 rfl ?_
  refine iC X16 hx hby d4_20 ?_
  refine XS.iadd X16.here hx rfl (hb hby d4_21) rfl ?_
  refine st19.trans ?_
  show St p e below T19 m 25 #[rv a1, iv (1:Int32), iv p14] [(.int (own_ix c7 (p14 + (1:Int32))))] _
  rw [H21]
  refine XS.istoreN X19.here hx rfl (hb hby d4_25) rfl (l' := #[rv a1, iv (1:Int32), iv p20]) rfl ?_
  refine XS.goto X19.here hx rfl (pc0 := 26) (pc' := 9) rfl (hb hby d4_26) (by decide) (by decide) ?_
  refine iN X19 hx hby d4_9 rfl ?_
  refine XS.ifNo X19.here hx rfl (hb hby d4_10) rfl ((if0 _ _).trans (flt hc22).1) ?_
  refine XS.iinc X19.here hx rfl (hb hby d4_13) rfl (l' := #[rv a1, iv (2:Int32), iv p20]) rfl ?_
  refine aN X19 hx hby d4_16 rfl rfl ?_
  refine XS.bipush X19.here hx rfl (hb hby d4_17) ?_
  refine iN X19 hx hby d4_19 rfl ?_
  refine iC X19 hx hby d4_20 ?_
  refine XS.iadd X19.here hx rfl (hb hby d4_21) rfl ?_
  show St p e below T19 m 22 #[rv a1, iv (2:Int32), iv p20] [(.int (p20 + (1:Int32))), (.int (44:Int32)), (.ref a1)] _
  refine st24.trans ?_
  show St p e below T24 m 25 #[rv a1, iv (2:Int32), iv p20] [(.int (own_ix c7 (p20 + (1:Int32))))] _
  rw [H26]
  refine XS.istoreN X24.here hx rfl (hb hby d4_25) rfl (l' := #[rv a1, iv (2:Int32), iv p25]) rfl ?_
  refine XS.goto X24.here hx rfl (pc0 := 26) (pc' := 9) rfl (hb hby d4_26) (by decide) (by decide) ?_
  refine iN X24 hx hby d4_9 rfl ?_
  refine XS.ifNo X24.here hx rfl (hb hby d4_10) rfl ((if0 _ _).trans (flt hc27).1) ?_
  refine XS.iinc X24.here hx rfl (hb hby d4_13) rfl (l' := #[rv a1, iv (3:Int32), iv p25]) rfl ?_
  refine aN X24 hx hby d4_16 rfl rfl ?_
  refine XS.bipush X24.here hx rfl (hb hby d4_17) ?_
  refine iN X24 hx hby d4_19 rfl ?_
  refine iC X24 hx hby d4_20 ?_
  refine XS.iadd X24.here hx rfl (hb hby d4_21) rfl ?_
  refine st29.trans ?_
  show St p e below T29 m 25 #[rv a1, iv (3:Int32), iv p25] [(.int (own_ix c7 (p25 + (1:Int32))))] _
  rw [H31]
  refine XS.istoreN X29.here hx rfl (hb hby d4_25) rfl (l' := #[rv a1, iv (3:Int32), iv p30]) rfl ?_
  refine XS.goto X29.here hx rfl (pc0 := 26) (pc' := 9) rfl (hb hby d4_26) (by decide) (by decide) ?_
  refine iN X29 hx hby d4_9 rfl ?_
  refine XS.ifYes X29.here hx rfl (pc0 := 10) (pc' := 29) rfl (hb hby d4_10) rfl ((if0 _ _).trans (tlt hc32).1) (by decide) (by decide) ?_
  refine iN X29 hx hby d4_29 rfl ?_
  exact retI X29 hx Bd.returns (hb hby d4_30) hr
def r4_5Q (Z : State) (a1 a4 : Addr) (k6 : ClassId) (c7 : List Int32) (p9 p14 p20 p25 p30 p35:Int32) (h0 : Heap) (n0 : Nat) : QT := fun v h L => v = some (.int (4:Int32)) ∧ Fr n0 L ∧ h = h0
theorem r4_5 (l : Launch) (Z : State) (a0 : Array Value) (hw : HW a0 Z) (ws : List Jvm.Cond) (a1 a4 : Addr) (k6 : ClassId) (c7 : List Int32) (p9 p14 p20 p25 p30 p35:Int32) (h0 : Heap) (n0 : Nat) (O0 : Old Z n0 h0) (H2 : xE1 Z h0 a1) (H3 : xF2 Z h0 a1 (.int (0:Int32))) (H5 : xF3 Z h0 a1 (.ref a4)) (H8 : Arv Z h0 a4 k6 .byte (own_tn c7) (own_tb c7) (.int (0:Int32))) (H10 : Sta Z Z.heap "java/lang/String" "COMPACT_STRINGS" "Z" (.int p9)) (hc11 : ¬ (p9 = (0:Int32))) (H12 : own_GT c7) (hc13 : own_po c7 (0:Int32)) (H15 : (own_ix c7 (0:Int32)) = p14) (hc17 : ¬ (p14 < (0:Int32))) (hc18 : own_po c7 (p14 + (1:Int32))) (H21 : (own_ix c7 (p14 + (1:Int32))) = p20) (hc22 : ¬ (p20 < (0:Int32))) (hc23 : own_po c7 (p20 + (1:Int32))) (H26 : (own_ix c7 (p20 + (1:Int32))) = p25) (hc27 : ¬ (p25 < (0:Int32))) (hc28 : own_po c7 (p25 + (1:Int32))) (H31 : (own_ix c7 (p25 + (1:Int32))) = p30) (hc32 : ¬ (p30 < (0:Int32))) (hc33 : own_po c7 (p30 + (1:Int32))) (H36 : (own_ix c7 (p30 + (1:Int32))) = p35) (hc37 : p35 < (0:Int32)) :
    MF l y4 cP22_6 3 (some .int) ws (rM 4 0 0 59) Z #[(.ref a1)] h0 (r4_5Q Z a1 a4 k6 c7 p9 p14 p20 p25 p30 p35 h0 n0) := by
  refine own_in (pq pn1) #[rv a1, un, un] (fun _ => by first | (simp [entryFrame, mkF, argsToLocals, Value.category]; done) | rfl) ?_
  intro p e s m below meth c s₁ Bd hx hby hml hown hnm hZ e0 X0
  have N0 := Fr.nil n0
  obtain ⟨_, _, _, X16, hQ16, st16⟩ := cV X0 hx hZ hw hown (y := y5) 23 rfl 24 rfl 26 rfl 25 rfl 27 rfl 9 rfl (by decide) (W := 0) (r5_1 l Z a0 hw [] a1 a4 k6 c7 p9 p14 h0 n0 O0 H2 H3 H5 H8 H10 hc11 H12 hc13 H15) (by decide) (by decide) H2 e0 (g := (mkF m 5 #[rv a1, iv (0:Int32), un] [(.int (44:Int32)), (.ref a1)])) rfl (by rw [hml]; rfl) (argsL := [(.int (44:Int32))]) (rest := []) (lenOf pd19 rfl) rfl wf (hb hby d4_5) rfl (by decide) (by decide)
  obtain ⟨rfl, N16q, e16⟩ := hQ16
  have N16 := Fr.app N0 N16q
  obtain ⟨T19, _, _, X19, hQ19, st19⟩ := cV X16 hx hZ hw hown (y := y6) 124 rfl 29 rfl 31 rfl 30 rfl 32 rfl 9 rfl (by decide) (W := 0) (own_idx l Z a0 hw [] a1 a4 k6 c7 (p14 + (1:Int32)) p9 h0 n0 O0 H2 H10 hc11 H3 H5 H8 H12 hc18) (by decide) (by decide) H2 e16 (g := (mkF m 22 #[rv a1, iv (1:Int32), iv p14] [(.int (p14 + (1:Int32))), (.int (44:Int32)), (.ref a1)])) rfl (by rw [hml]; rfl) (argsL := [(.int (44:Int32)), (.int (p14 + (1:Int32)))]) (rest := []) (lenOf pd14 rfl) rfl wf (hb hby d4_22) rfl (by decide) (by decide)
  obtain ⟨rfl, N19q, e19⟩ := hQ19
  have N19 := Fr.app N16 N19q
  obtain ⟨T24, _, _, X24, hQ24, st24⟩ := cV X19 hx hZ hw hown (y := y6) 124 rfl 29 rfl 31 rfl 30 rfl 32 rfl 9 rfl (by decide) (W := 0) (own_idx l Z a0 hw [] a1 a4 k6 c7 (p20 + (1:Int32)) p9 h0 n0 O0 H2 H10 hc11 H3 H5 H8 H12 hc23) (by decide) (by decide) H2 e19 (g := (mkF m 22 #[rv a1, iv (2:Int32), iv p20] [(.int (p20 + (1:Int32))), (.int (44:Int32)), (.ref a1)])) rfl (by rw [hml]; rfl) (argsL := [(.int (44:Int32)), (.int (p20 + (1:Int32)))]) (rest := []) (lenOf pd14 rfl) rfl wf (hb hby d4_22) rfl (by decide) (by decide)
  obtain ⟨rfl, N24q, e24⟩ := hQ24
  have N24 := Fr.app N19 N24q
  obtain ⟨T29, _, _, X29, hQ29, st29⟩ := cV X24 hx hZ hw hown (y := y6) 124 rfl 29 rfl 31 rfl 30 rfl 32 rfl 9 rfl (by decide) (W := 0) (own_idx l Z a0 hw [] a1 a4 k6 c7 (p25 + (1:Int32)) p9 h0 n0 O0 H2 H10 hc11 H3 H5 H8 H12 hc28) (by decide) (by decide) H2 e24 (g := (mkF m 22 #[rv a1, iv (3:Int32), iv p25] [(.int (p25 + (1:Int32))), (.int (44:Int32)), (.ref a1)])) rfl (by rw [hml]; rfl) (argsL := [(.int (44:Int32)), (.int (p25 + (1:Int32)))]) (rest := []) (lenOf pd14 rfl) rfl wf (hb hby d4_22) rfl (by decide) (by decide)
  obtain ⟨rfl, N29q, e29⟩ := hQ29
  have N29 := Fr.app N24 N29q
  obtain ⟨T34, _, _, X34, hQ34, st34⟩ := cV X29 hx hZ hw hown (y := y6) 124 rfl 29 rfl 31 rfl 30 rfl 32 rfl 9 rfl (by decide) (W := 0) (own_idx l Z a0 hw [] a1 a4 k6 c7 (p30 + (1:Int32)) p9 h0 n0 O0 H2 H10 hc11 H3 H5 H8 H12 hc33) (by decide) (by decide) H2 e29 (g := (mkF m 22 #[rv a1, iv (4:Int32), iv p30] [(.int (p30 + (1:Int32))), (.int (44:Int32)), (.ref a1)])) rfl (by rw [hml]; rfl) (argsL := [(.int (44:Int32)), (.int (p30 + (1:Int32)))]) (rest := []) (lenOf pd14 rfl) rfl wf (hb hby d4_22) rfl (by decide) (by decide)
  obtain ⟨rfl, N34q, e34⟩ := hQ34
  have N34 := Fr.app N29 N34q
  refine fin (Q := r4_5Q Z a1 a4 k6 c7 p9 p14 p20 p25 p30 p35 h0 n0) (rm := (rM 4 0 0 59)) Bd X34 e34 (some (.int (4:Int32))) nofun ⟨rfl, N34, rfl⟩ (by decide) (by decide) fun fs hr => ?_
  show St p e below s₁ m 0 #[rv a1, un, un] [] _
  refine iC X0 hx hby d4_0 ?_
  refine XS.istoreN X0.here hx rfl (hb hby d4_1) rfl (l' := #[rv a1, iv (0:Int32), un]) rfl ?_
  refine aN X0 hx hby d4_2 rfl rfl ?_
  refine XS.bipush X0.here hx rfl (hb hby d4_3) ?_
  refine st16.trans ?_
  refine XS.istoreN X16.here hx rfl (hb hby d4_8) rfl (l' := #[rv a1, iv (0:Int32), iv p14]) rfl ?_
  refine iN X16 hx hby d4_9 rfl ?_
  refine XS.ifNo X16.here hx rfl (hb hby d4_10) rfl ((if0 _ _).trans (flt hc17).1) ?_
  refine XS.iinc X16.here hx rfl (hb hby d4_13) rfl (l' := #[rv a1, iv (1:Int32), iv p14]) rfl ?_
  refine aN X16 hx hby d4_16 rfl rfl ?_
  refine XS.bipush X16.here hx rfl (hb hby d4_17) ?_
  refine iN X16 hx hby d4_19 rfl ?_
  refine iC X16 hx hby d4_20 ?_
  refine XS.iadd X16.here hx rfl (hb hby d4_21) rfl ?_
  refine st19.trans ?_
  show St p e below T19 m 25 #[rv a1, iv (1:Int32), iv p14] [(.int (own_ix c7 (p14 + (1:Int32))))] _
  rw [H21]
  refine XS.istoreN X19.here hx rfl (hb hby d4_25) rfl (l' := #[rv a1, iv (1:Int32), iv p20]) rfl ?_
  refine XS.goto X19.here hx rfl (pc0 := 26) (pc' := 9) rfl (hb hby d4_26) (by decide) (by decide) ?_
  refine iN X19 hx hby d4_9 rfl ?_
  refine XS.ifNo X19.here hx rfl (hb hby d4_10) rfl ((if0 _ _).trans (flt hc22).1) ?_
  refine XS.iinc X19.here hx rfl (hb hby d4_13) rfl (l' := #[rv a1, iv (2:Int32), iv p20]) rfl ?_
  refine aN X19 hx hby d4_16 rfl rfl ?_
  refine XS.bipush X19.here hx rfl (hb hby d4_17) ?_
  refine iN X19 hx hby d4_19 rfl ?_
  refine iC X19 hx hby d4_20 ?_
  refine XS.iadd X19.here hx rfl (hb hby d4_21) rfl ?_
  show St p e below T19 m 22 #[rv a1, iv (2:Int32), iv p20] [(.int (p20 + (1:Int32))), (.int (44:Int32)), (.ref a1)] _
  refine st24.trans ?_
  show St p e below T24 m 25 #[rv a1, iv (2:Int32), iv p20] [(.int (own_ix c7 (p20 + (1:Int32))))] _
  rw [H26]
  refine XS.istoreN X24.here hx rfl (hb hby d4_25) rfl (l' := #[rv a1, iv (2:Int32), iv p25]) rfl ?_
  refine XS.goto X24.here hx rfl (pc0 := 26) (pc' := 9) rfl (hb hby d4_26) (by decide) (by decide) ?_
  refine iN X24 hx hby d4_9 rfl ?_
  refine XS.ifNo X24.here hx rfl (hb hby d4_10) rfl ((if0 _ _).trans (flt hc27).1) ?_
  refine XS.iinc X24.here hx rfl (hb hby d4_13) rfl (l' := #[rv a1, iv (3:Int32), iv p25]) rfl ?_
  refine aN X24 hx hby d4_16 rfl rfl ?_
  refine XS.bipush X24.here hx rfl (hb hby d4_17) ?_
  refine iN X24 hx hby d4_19 rfl ?_
  refine iC X24 hx hby d4_20 ?_
  refine XS.iadd X24.here hx rfl (hb hby d4_21) rfl ?_
  refine st29.trans ?_
  show St p e below T29 m 25 #[rv a1, iv (3:Int32), iv p25] [(.int (own_ix c7 (p25 + (1:Int32))))] _
  rw [H31]
  refine XS.istoreN X29.here hx rfl (hb hby d4_25) rfl (l' := #[rv a1, iv (3:Int32), iv p30]) rfl ?_
  refine XS.goto X29.here hx rfl (pc0 := 26) (pc' := 9) rfl (hb hby d4_26) (by decide) (by decide) ?_
  refine iN X29 hx hby d4_9 rfl ?_
  refine XS.ifNo X29.here hx rfl (hb hby d4_10) rfl ((if0 _ _).trans (flt hc32).1) ?_
  refine XS.iinc X29.here hx rfl (hb hby d4_13) rfl (l' := #[rv a1, iv (4:Int32), iv p30]) rfl ?_
  refine aN X29 hx hby d4_16 rfl rfl ?_
  refine XS.bipush X29.here hx rfl (hb hby d4_17) ?_
  refine iN X29 hx hby d4_19 rfl ?_
  refine iC X29 hx hby d4_20 ?_
  refine XS.iadd X29.here hx rfl (hb hby d4_21) rfl ?_
  refine st34.trans ?_
  show St p e below T34 m 25 #[rv a1, iv (4:Int32), iv p30] [(.int (own_ix c7 (p30 + (1:Int32))))] _
  rw [H36]
  refine XS.istoreN X34.here hx rfl (hb hby d4_25) rfl (l' := #[rv a1, iv (4:Int32), iv p35]) rfl ?_
  refine XS.goto X34.here hx rfl (pc0 := 26) (pc' := 9) rfl (hb hby d4_26) (by decide) (by decide) ?_
  show St p e below T34 m 9 #[rv a1, iv (4:Int32), iv p35] [] _
  refine iN X34 hx hby d4_9 rfl ?_
  refine XS.ifYes X34.here hx rfl (pc0 := 10) (pc' := 29) rfl (hb hby d4_10) rfl ((if0 _ _).trans (tlt hc37).1) (by decide) (by decide) ?_
  refine iN X34 hx hby d4_29 rfl ?_
  exact retI X34 hx Bd.returns (hb hby d4_30) hr
def r4_6Q (Z : State) (a1 a4 : Addr) (k6 : ClassId) (c7 : List Int32) (p9 p14 p20 p25 p30 p35 p40:Int32) (h0 : Heap) (n0 : Nat) : QT := fun v h L => v = some (.int (5:Int32)) ∧ Fr n0 L ∧ h = h0
theorem r4_6 (l : Launch) (Z : State) (a0 : Array Value) (hw : HW a0 Z) (ws : List Jvm.Cond) (a1 a4 : Addr) (k6 : ClassId) (c7 : List Int32) (p9 p14 p20 p25 p30 p35 p40:Int32) (h0 : Heap) (n0 : Nat) (O0 : Old Z n0 h0) (H2 : xE1 Z h0 a1) (H3 : xF2 Z h0 a1 (.int (0:Int32))) (H5 : xF3 Z h0 a1 (.ref a4)) (H8 : Arv Z h0 a4 k6 .byte (own_tn c7) (own_tb c7) (.int (0:Int32))) (H10 : Sta Z Z.heap "java/lang/String" "COMPACT_STRINGS" "Z" (.int p9)) (hc11 : ¬ (p9 = (0:Int32))) (H12 : own_GT c7) (hc13 : own_po c7 (0:Int32)) (H15 : (own_ix c7 (0:Int32)) = p14) (hc17 : ¬ (p14 < (0:Int32))) (hc18 : own_po c7 (p14 + (1:Int32))) (H21 : (own_ix c7 (p14 + (1:Int32))) = p20) (hc22 : ¬ (p20 < (0:Int32))) (hc23 : own_po c7 (p20 + (1:Int32))) (H26 : (own_ix c7 (p20 + (1:Int32))) = p25) (hc27 : ¬ (p25 < (0:Int32))) (hc28 : own_po c7 (p25 + (1:Int32))) (H31 : (own_ix c7 (p25 + (1:Int32))) = p30) (hc32 : ¬ (p30 < (0:Int32))) (hc33 : own_po c7 (p30 + (1:Int32))) (H36 : (own_ix c7 (p30 + (1:Int32))) = p35) (hc37 : ¬ (p35 < (0:Int32))) (hc38 : own_po c7 (p35 + (1:Int32))) (H41 : (own_ix c7 (p35 + (1:Int32))) = p40) (hc42 : p40 < (0:Int32)) :
    MF l y4 cP22_6 3 (some .int) ws (rM 4 0 0 59) Z #[(.ref a1)] h0 (r4_6Q Z a1 a4 k6 c7 p9 p14 p20 p25 p30 p35 p40 h0 n0) := by
  refine own_in (pq pn1) #[rv a1, un, un] (fun _ => by first | (simp [entryFrame, mkF, argsToLocals, Value.category]; done) | rfl) ?_
  intro p e s m below meth c s₁ Bd hx hby hml hown hnm hZ e0 X0
  have N0 := Fr.nil n0
  obtain ⟨_, _, _, X16, hQ16, st16⟩ := cV X0 hx hZ hw hown (y := y5) 23 rfl 24 rfl 26 rfl 25 rfl 27 rfl 9 rfl (by decide) (W := 0) (r5_1 l Z a0 hw [] a1 a4 k6 c7 p9 p14 h0 n0 O0 H2 H3 H5 H8 H10 hc11 H12 hc13 H15) (by decide) (by decide) H2 e0 (g := (mkF m 5 #[rv a1, iv (0:Int32), un] [(.int (44:Int32)), (.ref a1)])) rfl (by rw [hml]; rfl) (argsL := [(.int (44:Int32))]) (rest := []) (lenOf pd19 rfl) rfl wf (hb hby d4_5) rfl (by decide) (by decide)
  obtain ⟨rfl, N16q, e16⟩ := hQ16
  have N16 := Fr.app N0 N16q
  obtain ⟨T19, _, _, X19, hQ19, st19⟩ := cV X16 hx hZ hw hown (y := y6) 124 rfl 29 rfl 31 rfl 30 rfl 32 rfl 9 rfl (by decide) (W := 0) (own_idx l Z a0 hw [] a1 a4 k6 c7 (p14 + (1:Int32)) p9 h0 n0 O0 H2 H10 hc11 H3 H5 H8 H12 hc18) (by decide) (by decide) H2 e16 (g := (mkF m 22 #[rv a1, iv (1:Int32), iv p14] [(.int (p14 + (1:Int32))), (.int (44:Int32)), (.ref a1)])) rfl (by rw [hml]; rfl) (argsL := [(.int (44:Int32)), (.int (p14 + (1:Int32)))]) (rest := []) (lenOf pd14 rfl) rfl wf (hb hby d4_22) rfl (by decide) (by decide)
  obtain ⟨rfl, N19q, e19⟩ := hQ19
  have N19 := Fr.app N16 N19q
  obtain ⟨T24, _, _, X24, hQ24, st24⟩ := cV X19 hx hZ hw hown (y := y6) 124 rfl 29 rfl 31 rfl 30 rfl 32 rfl 9 rfl (by decide) (W := 0) (own_idx l Z a0 hw [] a1 a4 k6 c7 (p20 + (1:Int32)) p9 h0 n0 O0 H2 H10 hc11 H3 H5 H8 H12 hc23) (by decide) (by decide) H2 e19 (g := (mkF m 22 #[rv a1, iv (2:Int32), iv p20] [(.int (p20 + (1:Int32))), (.int (44:Int32)), (.ref a1)])) rfl (by rw [hml]; rfl) (argsL := [(.int (44:Int32)), (.int (p20 + (1:Int32)))]) (rest := []) (lenOf pd14 rfl) rfl wf (hb hby d4_22) rfl (by decide) (by decide)
  obtain ⟨rfl, N24q, e24⟩ := hQ24
  have N24 := Fr.app N19 N24q
  obtain ⟨T29, _, _, X29, hQ29, st29⟩ := cV X24 hx hZ hw hown (y := y6) 124 rfl 29 rfl 31 rfl 30 rfl 32 rfl 9 rfl (by decide) (W := 0) (own_idx l Z a0 hw [] a1 a4 k6 c7 (p25 + (1:Int32)) p9 h0 n0 O0 H2 H10 hc11 H3 H5 H8 H12 hc28) (by decide) (by decide) H2 e24 (g := (mkF m 22 #[rv a1, iv (3:Int32), iv p25] [(.int (p25 + (1:Int32))), (.int (44:Int32)), (.ref a1)])) rfl (by rw [hml]; rfl) (argsL := [(.int (44:Int32)), (.int (p25 + (1:Int32)))]) (rest := []) (lenOf pd14 rfl) rfl wf (hb hby d4_22) rfl (by decide) (by decide)
  obtain ⟨rfl, N29q, e29⟩ := hQ29
  have N29 := Fr.app N24 N29q
  obtain ⟨T34, _, _, X34, hQ34, st34⟩ := cV X29 hx hZ hw hown (y := y6) 124 rfl 29 rfl 31 rfl 30 rfl 32 rfl 9 rfl (by decide) (W := 0) (own_idx l Z a0 hw [] a1 a4 k6 c7 (p30 + (1:Int32)) p9 h0 n0 O0 H2 H10 hc11 H3 H5 H8 H12 hc33) (by decide) (by decide) H2 e29 (g := (mkF m 22 #[rv a1, iv (4:Int32), iv p30] [(.int (p30 + (1:Int32))), (.int (44:Int32)), (.ref a1)])) rfl (by rw [hml]; rfl) (argsL := [(.int (44:Int32)), (.int (p30 + (1:Int32)))]) (rest := []) (lenOf pd14 rfl) rfl wf (hb hby d4_22) rfl (by decide) (by decide)
  obtain ⟨rfl, N34q, e34⟩ := hQ34
  have N34 := Fr.app N29 N34q
  obtain ⟨T39, _, _, X39, hQ39, st39⟩ := cV X34 hx hZ hw hown (y := y6) 124 rfl 29 rfl 31 rfl 30 rfl 32 rfl 9 rfl (by decide) (W := 0) (own_idx l Z a0 hw [] a1 a4 k6 c7 (p35 + (1:Int32)) p9 h0 n0 O0 H2 H10 hc11 H3 H5 H8 H12 hc38) (by decide) (by decide) H2 e34 (g := (mkF m 22 #[rv a1, iv (5:Int32), iv p35] [(.int (p35 + (1:Int32))), (.int (44:Int32)), (.ref a1)])) rfl (by rw [hml]; rfl) (argsL := [(.int (44:Int32)), (.int (p35 + (1:Int32)))]) (rest := []) (lenOf pd14 rfl) rfl wf (hb hby d4_22) rfl (by decide) (by decide)
  obtain ⟨rfl, N39q, e39⟩ := hQ39
  have N39 := Fr.app N34 N39q
  refine fin (Q := r4_6Q Z a1 a4 k6 c7 p9 p14 p20 p25 p30 p35 p40 h0 n0) (rm := (rM 4 0 0 59)) Bd X39 e39 (some (.int (5:Int32))) nofun ⟨rfl, N39, rfl⟩ (by decide) (by decide) fun fs hr => ?_
  show St p e below s₁ m 0 #[rv a1, un, un] [] _
  refine iC X0 hx hby d4_0 ?_
  refine XS.istoreN X0.here hx rfl (hb hby d4_1) rfl (l' := #[rv a1, iv (0:Int32), un]) rfl ?_
  refine aN X0 hx hby d4_2 rfl rfl ?_
  refine XS.bipush X0.here hx rfl (hb hby d4_3) ?_
  refine st16.trans ?_
  refine XS.istoreN X16.here hx rfl (hb hby d4_8) rfl (l' := #[rv a1, iv (0:Int32), iv p14]) rfl ?_
  refine iN X16 hx hby d4_9 rfl ?_
  refine XS.ifNo X16.here hx rfl (hb hby d4_10) rfl ((if0 _ _).trans (flt hc17).1) ?_
  refine XS.iinc X16.here hx rfl (hb hby d4_13) rfl (l' := #[rv a1, iv (1:Int32), iv p14]) rfl ?_
  refine aN X16 hx hby d4_16 rfl rfl ?_
  refine XS.bipush X16.here hx rfl (hb hby d4_17) ?_
  refine iN X16 hx hby d4_19 rfl ?_
  refine iC X16 hx hby d4_20 ?_
  refine XS.iadd X16.here hx rfl (hb hby d4_21) rfl ?_
  refine st19.trans ?_
  show St p e below T19 m 25 #[rv a1, iv (1:Int32), iv p14] [(.int (own_ix c7 (p14 + (1:Int32))))] _
  rw [H21]
  refine XS.istoreN X19.here hx rfl (hb hby d4_25) rfl (l' := #[rv a1, iv (1:Int32), iv p20]) rfl ?_
  refine XS.goto X19.here hx rfl (pc0 := 26) (pc' := 9) rfl (hb hby d4_26) (by decide) (by decide) ?_
  refine iN X19 hx hby d4_9 rfl ?_
  refine XS.ifNo X19.here hx rfl (hb hby d4_10) rfl ((if0 _ _).trans (flt hc22).1) ?_
  refine XS.iinc X19.here hx rfl (hb hby d4_13) rfl (l' := #[rv a1, iv (2:Int32), iv p20]) rfl ?_
  refine aN X19 hx hby d4_16 rfl rfl ?_
  refine XS.bipush X19.here hx rfl (hb hby d4_17) ?_
  refine iN X19 hx hby d4_19 rfl ?_
  refine iC X19 hx hby d4_20 ?_
  refine XS.iadd X19.here hx rfl (hb hby d4_21) rfl ?_
  show St p e below T19 m 22 #[rv a1, iv (2:Int32), iv p20] [(.int (p20 + (1:Int32))), (.int (44:Int32)), (.ref a1)] _
  refine st24.trans ?_
  show St p e below T24 m 25 #[rv a1, iv (2:Int32), iv p20] [(.int (own_ix c7 (p20 + (1:Int32))))] _
  rw [H26]
  refine XS.istoreN X24.here hx rfl (hb hby d4_25) rfl (l' := #[rv a1, iv (2:Int32), iv p25]) rfl ?_
  refine XS.goto X24.here hx rfl (pc0 := 26) (pc' := 9) rfl (hb hby d4_26) (by decide) (by decide) ?_
  refine iN X24 hx hby d4_9 rfl ?_
  refine XS.ifNo X24.here hx rfl (hb hby d4_10) rfl ((if0 _ _).trans (flt hc27).1) ?_
  refine XS.iinc X24.here hx rfl (hb hby d4_13) rfl (l' := #[rv a1, iv (3:Int32), iv p25]) rfl ?_
  refine aN X24 hx hby d4_16 rfl rfl ?_
  refine XS.bipush X24.here hx rfl (hb hby d4_17) ?_
  refine iN X24 hx hby d4_19 rfl ?_
  refine iC X24 hx hby d4_20 ?_
  refine XS.iadd X24.here hx rfl (hb hby d4_21) rfl ?_
  refine st29.trans ?_
  show St p e below T29 m 25 #[rv a1, iv (3:Int32), iv p25] [(.int (own_ix c7 (p25 + (1:Int32))))] _
  rw [H31]
  refine XS.istoreN X29.here hx rfl (hb hby d4_25) rfl (l' := #[rv a1, iv (3:Int32), iv p30]) rfl ?_
  refine XS.goto X29.here hx rfl (pc0 := 26) (pc' := 9) rfl (hb hby d4_26) (by decide) (by decide) ?_
  refine iN X29 hx hby d4_9 rfl ?_
  refine XS.ifNo X29.here hx rfl (hb hby d4_10) rfl ((if0 _ _).trans (flt hc32).1) ?_
  refine XS.iinc X29.here hx rfl (hb hby d4_13) rfl (l' := #[rv a1, iv (4:Int32), iv p30]) rfl ?_
  refine aN X29 hx hby d4_16 rfl rfl ?_
  refine XS.bipush X29.here hx rfl (hb hby d4_17) ?_
  refine iN X29 hx hby d4_19 rfl ?_
  refine iC X29 hx hby d4_20 ?_
  refine XS.iadd X29.here hx rfl (hb hby d4_21) rfl ?_
  refine st34.trans ?_
  show St p e below T34 m 25 #[rv a1, iv (4:Int32), iv p30] [(.int (own_ix c7 (p30 + (1:Int32))))] _
  rw [H36]
  refine XS.istoreN X34.here hx rfl (hb hby d4_25) rfl (l' := #[rv a1, iv (4:Int32), iv p35]) rfl ?_
  refine XS.goto X34.here hx rfl (pc0 := 26) (pc' := 9) rfl (hb hby d4_26) (by decide) (by decide) ?_
  show St p e below T34 m 9 #[rv a1, iv (4:Int32), iv p35] [] _
  refine iN X34 hx hby d4_9 rfl ?_
  refine XS.ifNo X34.here hx rfl (hb hby d4_10) rfl ((if0 _ _).trans (flt hc37).1) ?_
  refine XS.iinc X34.here hx rfl (hb hby d4_13) rfl (l' := #[rv a1, iv (5:Int32), iv p35]) rfl ?_
  refine aN X34 hx hby d4_16 rfl rfl ?_
  refine XS.bipush X34.here hx rfl (hb hby d4_17) ?_
  refine iN X34 hx hby d4_19 rfl ?_
  refine iC X34 hx hby d4_20 ?_
  refine XS.iadd X34.here hx rfl (hb hby d4_21) rfl ?_
  refine st39.trans ?_
  show St p e below T39 m 25 #[rv a1, iv (5:Int32), iv p35] [(.int (own_ix c7 (p35 + (1:Int32))))] _
  rw [H41]
  refine XS.istoreN X39.here hx rfl (hb hby d4_25) rfl (l' := #[rv a1, iv (5:Int32), iv p40]) rfl ?_
  refine XS.goto X39.here hx rfl (pc0 := 26) (pc' := 9) rfl (hb hby d4_26) (by decide) (by decide) ?_
  refine iN X39 hx hby d4_9 rfl ?_
  refine XS.ifYes X39.here hx rfl (pc0 := 10) (pc' := 29) rfl (hb hby d4_10) rfl ((if0 _ _).trans (tlt hc42).1) (by decide) (by decide) ?_
  refine iN X39 hx hby d4_29 rfl ?_
  exact retI X39 hx Bd.returns (hb hby d4_30) hr
def r4_7Q (Z : State) (a1 a4 : Addr) (k6 : ClassId) (c7 : List Int32) (p9 p14 p20 p25 p30 p35 p40 p45:Int32) (h0 : Heap) (n0 : Nat) : QT := fun v h L => v = some (.int (6:Int32)) ∧ Fr n0 L ∧ h = h0
theorem r4_7 (l : Launch) (Z : State) (a0 : Array Value) (hw : HW a0 Z) (ws : List Jvm.Cond) (a1 a4 : Addr) (k6 : ClassId) (c7 : List Int32) (p9 p14 p20 p25 p30 p35 p40 p45:Int32) (h0 : Heap) (n0 : Nat) (O0 : Old Z n0 h0) (H2 : xE1 Z h0 a1) (H3 : xF2 Z h0 a1 (.int (0:Int32))) (H5 : xF3 Z h0 a1 (.ref a4)) (H8 : Arv Z h0 a4 k6 .byte (own_tn c7) (own_tb c7) (.int (0:Int32))) (H10 : Sta Z Z.heap "java/lang/String" "COMPACT_STRINGS" "Z" (.int p9)) (hc11 : ¬ (p9 = (0:Int32))) (H12 : own_GT c7) (hc13 : own_po c7 (0:Int32)) (H15 : (own_ix c7 (0:Int32)) = p14) (hc17 : ¬ (p14 < (0:Int32))) (hc18 : own_po c7 (p14 + (1:Int32))) (H21 : (own_ix c7 (p14 + (1:Int32))) = p20) (hc22 : ¬ (p20 < (0:Int32))) (hc23 : own_po c7 (p20 + (1:Int32))) (H26 : (own_ix c7 (p20 + (1:Int32))) = p25) (hc27 : ¬ (p25 < (0:Int32))) (hc28 : own_po c7 (p25 + (1:Int32))) (H31 : (own_ix c7 (p25 + (1:Int32))) = p30) (hc32 : ¬ (p30 < (0:Int32))) (hc33 : own_po c7 (p30 + (1:Int32))) (H36 : (own_ix c7 (p30 + (1:Int32))) = p35) (hc37 : ¬ (p35 < (0:Int32))) (hc38 : own_po c7 (p35 + (1:Int32))) (H41 : (own_ix c7 (p35 + (1:Int32))) = p40) (hc42 : ¬ (p40 < (0:Int32))) (hc43 : own_po c7 (p40 + (1:Int32))) (H46 : (own_ix c7 (p40 + (1:Int32))) = p45) (hc47 : p45 < (0:Int32)) :
    MF l y4 cP22_6 3 (some .int) ws (rM 4 0 0 59) Z #[(.ref a1)] h0 (r4_7Q Z a1 a4 k6 c7 p9 p14 p20 p25 p30 p35 p40 p45 h0 n0) := by
  refine own_in (pq pn1) #[rv a1, un, un] (fun _ => by first | (simp [entryFrame, mkF, argsToLocals, Value.category]; done) | rfl) ?_
  intro p e s m below meth c s₁ Bd hx hby hml hown hnm hZ e0 X0
  have N0 := Fr.nil n0
  obtain ⟨_, _, _, X16, hQ16, st16⟩ := cV X0 hx hZ hw hown (y := y5) 23 rfl 24 rfl 26 rfl 25 rfl 27 rfl 9 rfl (by decide) (W := 0) (r5_1 l Z a0 hw [] a1 a4 k6 c7 p9 p14 h0 n0 O0 H2 H3 H5 H8 H10 hc11 H12 hc13 H15) (by decide) (by decide) H2 e0 (g := (mkF m 5 #[rv a1, iv (0:Int32), un] [(.int (44:Int32)), (.ref a1)])) rfl (by rw [hml]; rfl) (argsL := [(.int (44:Int32))]) (rest := []) (lenOf pd19 rfl) rfl wf (hb hby d4_5) rfl (by decide) (by decide)
  obtain ⟨rfl, N16q, e16⟩ := hQ16
  have N16 := Fr.app N0 N16q
  obtain ⟨T19, _, _, X19, hQ19, st19⟩ := cV X16 hx hZ hw hown (y := y6) 124 rfl 29 rfl 31 rfl 30 rfl 32 rfl 9 rfl (by decide) (W := 0) (own_idx l Z a0 hw [] a1 a4 k6 c7 (p14 + (1:Int32)) p9 h0 n0 O0 H2 H10 hc11 H3 H5 H8 H12 hc18) (by decide) (by decide) H2 e16 (g := (mkF m 22 #[rv a1, iv (1:Int32), iv p14] [(.int (p14 + (1:Int32))), (.int (44:Int32)), (.ref a1)])) rfl (by rw [hml]; rfl) (argsL := [(.int (44:Int32)), (.int (p14 + (1:Int32)))]) (rest := []) (lenOf pd14 rfl) rfl wf (hb hby d4_22) rfl (by decide) (by decide)
  obtain ⟨rfl, N19q, e19⟩ := hQ19
  have N19 := Fr.app N16 N19q
  obtain ⟨T24, _, _, X24, hQ24, st24⟩ := cV X19 hx hZ hw hown (y := y6) 124 rfl 29 rfl 31 rfl 30 rfl 32 rfl 9 rfl (by decide) (W := 0) (own_idx l Z a0 hw [] a1 a4 k6 c7 (p20 + (1:Int32)) p9 h0 n0 O0 H2 H10 hc11 H3 H5 H8 H12 hc23) (by decide) (by decide) H2 e19 (g := (mkF m 22 #[rv a1, iv (2:Int32), iv p20] [(.int (p20 + (1:Int32))), (.int (44:Int32)), (.ref a1)])) rfl (by rw [hml]; rfl) (argsL := [(.int (44:Int32)), (.int (p20 + (1:Int32)))]) (rest := []) (lenOf pd14 rfl) rfl wf (hb hby d4_22) rfl (by decide) (by decide)
  obtain ⟨rfl, N24q, e24⟩ := hQ24
  have N24 := Fr.app N19 N24q
  obtain ⟨T29, _, _, X29, hQ29, st29⟩ := cV X24 hx hZ hw hown (y := y6) 124 rfl 29 rfl 31 rfl 30 rfl 32 rfl 9 rfl (by decide) (W := 0) (own_idx l Z a0 hw [] a1 a4 k6 c7 (p25 + (1:Int32)) p9 h0 n0 O0 H2 H10 hc11 H3 H5 H8 H12 hc28) (by decide) (by decide) H2 e24 (g := (mkF m 22 #[rv a1, iv (3:Int32), iv p25] [(.int (p25 + (1:Int32))), (.int (44:Int32)), (.ref a1)])) rfl (by rw [hml]; rfl) (argsL := [(.int (44:Int32)), (.int (p25 + (1:Int32)))]) (rest := []) (lenOf pd14 rfl) rfl wf (hb hby d4_22) rfl (by decide) (by decide)
  obtain ⟨rfl, N29q, e29⟩ := hQ29
  have N29 := Fr.app N24 N29q
  obtain ⟨T34, _, _, X34, hQ34, st34⟩ := cV X29 hx hZ hw hown (y := y6) 124 rfl 29 rfl 31 rfl 30 rfl 32 rfl 9 rfl (by decide) (W := 0) (own_idx l Z a0 hw [] a1 a4 k6 c7 (p30 + (1:Int32)) p9 h0 n0 O0 H2 H10 hc11 H3 H5 H8 H12 hc33) (by decide) (by decide) H2 e29 (g := (mkF m 22 #[rv a1, iv (4:Int32), iv p30] [(.int (p30 + (1:Int32))), (.int (44:Int32)), (.ref a1)])) rfl (by rw [hml]; rfl) (argsL := [(.int (44:Int32)), (.int (p30 + (1:Int32)))]) (rest := []) (lenOf pd14 rfl) rfl wf (hb hby d4_22) rfl (by decide) (by decide)
  obtain ⟨rfl, N34q, e34⟩ := hQ34
  have N34 := Fr.app N29 N34q
  obtain ⟨T39, _, _, X39, hQ39, st39⟩ := cV X34 hx hZ hw hown (y := y6) 124 rfl 29 rfl 31 rfl 30 rfl 32 rfl 9 rfl (by decide) (W := 0) (own_idx l Z a0 hw [] a1 a4 k6 c7 (p35 + (1:Int32)) p9 h0 n0 O0 H2 H10 hc11 H3 H5 H8 H12 hc38) (by decide) (by decide) H2 e34 (g := (mkF m 22 #[rv a1, iv (5:Int32), iv p35] [(.int (p35 + (1:Int32))), (.int (44:Int32)), (.ref a1)])) rfl (by rw [hml]; rfl) (argsL := [(.int (44:Int32)), (.int (p35 + (1:Int32)))]) (rest := []) (lenOf pd14 rfl) rfl wf (hb hby d4_22) rfl (by decide) (by decide)
  obtain ⟨rfl, N39q, e39⟩ := hQ39
  have N39 := Fr.app N34 N39q
  obtain ⟨T44, _, _, X44, hQ44, st44⟩ := cV X39 hx hZ hw hown (y := y6) 124 rfl 29 rfl 31 rfl 30 rfl 32 rfl 9 rfl (by decide) (W := 0) (own_idx l Z a0 hw [] a1 a4 k6 c7 (p40 + (1:Int32)) p9 h0 n0 O0 H2 H10 hc11 H3 H5 H8 H12 hc43) (by decide) (by decide) H2 e39 (g := (mkF m 22 #[rv a1, iv (6:Int32), iv p40] [(.int (p40 + (1:Int32))), (.int (44:Int32)), (.ref a1)])) rfl (by rw [hml]; rfl) (argsL := [(.int (44:Int32)), (.int (p40 + (1:Int32)))]) (rest := []) (lenOf pd14 rfl) rfl wf (hb hby d4_22) rfl (by decide) (by decide)
  obtain ⟨rfl, N44q, e44⟩ := hQ44
  have N44 := Fr.app N39 N44q
  refine fin (Q := r4_7Q Z a1 a4 k6 c7 p9 p14 p20 p25 p30 p35 p40 p45 h0 n0) (rm := (rM 4 0 0 59)) Bd X44 e44 (some (.int (6:Int32))) nofun ⟨rfl, N44, rfl⟩ (by decide) (by decide) fun fs hr => ?_
  show St p e below s₁ m 0 #[rv a1, un, un] [] _
  refine iC X0 hx hby d4_0 ?_
  refine XS.istoreN X0.here hx rfl (hb hby d4_1) rfl (l' := #[rv a1, iv (0:Int32), un]) rfl ?_
  refine aN X0 hx hby d4_2 rfl rfl ?_
  refine XS.bipush X0.here hx rfl (hb hby d4_3) ?_
  refine st16.trans ?_
  refine XS.istoreN X16.here hx rfl (hb hby d4_8) rfl (l' := #[rv a1, iv (0:Int32), iv p14]) rfl ?_
  refine iN X16 hx hby d4_9 rfl ?_
  refine XS.ifNo X16.here hx rfl (hb hby d4_10) rfl ((if0 _ _).trans (flt hc17).1) ?_
  refine XS.iinc X16.here hx rfl (hb hby d4_13) rfl (l' := #[rv a1, iv (1:Int32), iv p14]) rfl ?_
  refine aN X16 hx hby d4_16 rfl rfl ?_
  refine XS.bipush X16.here hx rfl (hb hby d4_17) ?_
  refine iN X16 hx hby d4_19 rfl ?_
  refine iC X16 hx hby d4_20 ?_
  refine XS.iadd X16.here hx rfl (hb hby d4_21) rfl ?_
  refine st19.trans ?_
  show St p e below T19 m 25 #[rv a1, iv (1:Int32), iv p14] [(.int (own_ix c7 (p14 + (1:Int32))))] _
  rw [H21]
  refine XS.istoreN X19.here hx rfl (hb hby d4_25) rfl (l' := #[rv a1, iv (1:Int32), iv p20]) rfl ?_
  refine XS.goto X19.here hx rfl (pc0 := 26) (pc' := 9) rfl (hb hby d4_26) (by decide) (by decide) ?_
  refine iN X19 hx hby d4_9 rfl ?_
  refine XS.ifNo X19.here hx rfl (hb hby d4_10) rfl ((if0 _ _).trans (flt hc22).1) ?_
  refine XS.iinc X19.here hx rfl (hb hby d4_13) rfl (l' := #[rv a1, iv (2:Int32), iv p20]) rfl ?_
  refine aN X19 hx hby d4_16 rfl rfl ?_
  refine XS.bipush X19.here hx rfl (hb hby d4_17) ?_
  refine iN X19 hx hby d4_19 rfl ?_
  refine iC X19 hx hby d4_20 ?_
  refine XS.iadd X19.here hx rfl (hb hby d4_21) rfl ?_
  show St p e below T19 m 22 #[rv a1, iv (2:Int32), iv p20] [(.int (p20 + (1:Int32))), (.int (44:Int32)), (.ref a1)] _
  refine st24.trans ?_
  show St p e below T24 m 25 #[rv a1, iv (2:Int32), iv p20] [(.int (own_ix c7 (p20 + (1:Int32))))] _
  rw [H26]
  refine XS.istoreN X24.here hx rfl (hb hby d4_25) rfl (l' := #[rv a1, iv (2:Int32), iv p25]) rfl ?_
  refine XS.goto X24.here hx rfl (pc0 := 26) (pc' := 9) rfl (hb hby d4_26) (by decide) (by decide) ?_
  refine iN X24 hx hby d4_9 rfl ?_
  refine XS.ifNo X24.here hx rfl (hb hby d4_10) rfl ((if0 _ _).trans (flt hc27).1) ?_
  refine XS.iinc X24.here hx rfl (hb hby d4_13) rfl (l' := #[rv a1, iv (3:Int32), iv p25]) rfl ?_
  refine aN X24 hx hby d4_16 rfl rfl ?_
  refine XS.bipush X24.here hx rfl (hb hby d4_17) ?_
  refine iN X24 hx hby d4_19 rfl ?_
  refine iC X24 hx hby d4_20 ?_
  refine XS.iadd X24.here hx rfl (hb hby d4_21) rfl ?_
  refine st29.trans ?_
  show St p e below T29 m 25 #[rv a1, iv (3:Int32), iv p25] [(.int (own_ix c7 (p25 + (1:Int32))))] _
  rw [H31]
  refine XS.istoreN X29.here hx rfl (hb hby d4_25) rfl (l' := #[rv a1, iv (3:Int32), iv p30]) rfl ?_
  refine XS.goto X29.here hx rfl (pc0 := 26) (pc' := 9) rfl (hb hby d4_26) (by decide) (by decide) ?_
  refine iN X29 hx hby d4_9 rfl ?_
  refine XS.ifNo X29.here hx rfl (hb hby d4_10) rfl ((if0 _ _).trans (flt hc32).1) ?_
  refine XS.iinc X29.here hx rfl (hb hby d4_13) rfl (l' := #[rv a1, iv (4:Int32), iv p30]) rfl ?_
  refine aN X29 hx hby d4_16 rfl rfl ?_
  refine XS.bipush X29.here hx rfl (hb hby d4_17) ?_
  refine iN X29 hx hby d4_19 rfl ?_
  refine iC X29 hx hby d4_20 ?_
  refine XS.iadd X29.here hx rfl (hb hby d4_21) rfl ?_
  refine st34.trans ?_
  show St p e below T34 m 25 #[rv a1, iv (4:Int32), iv p30] [(.int (own_ix c7 (p30 + (1:Int32))))] _
  rw [H36]
  refine XS.istoreN X34.here hx rfl (hb hby d4_25) rfl (l' := #[rv a1, iv (4:Int32), iv p35]) rfl ?_
  refine XS.goto X34.here hx rfl (pc0 := 26) (pc' := 9) rfl (hb hby d4_26) (by decide) (by decide) ?_
  show St p e below T34 m 9 #[rv a1, iv (4:Int32), iv p35] [] _
  refine iN X34 hx hby d4_9 rfl ?_
  refine XS.ifNo X34.here hx rfl (hb hby d4_10) rfl ((if0 _ _).trans (flt hc37).1) ?_
  refine XS.iinc X34.here hx rfl (hb hby d4_13) rfl (l' := #[rv a1, iv (5:Int32), iv p35]) rfl ?_
  refine aN X34 hx hby d4_16 rfl rfl ?_
  refine XS.bipush X34.here hx rfl (hb hby d4_17) ?_
  refine iN X34 hx hby d4_19 rfl ?_
  refine iC X34 hx hby d4_20 ?_
  refine XS.iadd X34.here hx rfl (hb hby d4_21) rfl ?_
  refine st39.trans ?_
  show St p e below T39 m 25 #[rv a1, iv (5:Int32), iv p35] [(.int (own_ix c7 (p35 + (1:Int32))))] _
  rw [H41]
  refine XS.istoreN X39.here hx rfl (hb hby d4_25) rfl (l' := #[rv a1, iv (5:Int32), iv p40]) rfl ?_
  refine XS.goto X39.here hx rfl (pc0 := 26) (pc' := 9) rfl (hb hby d4_26) (by decide) (by decide) ?_
  refine iN X39 hx hby d4_9 rfl ?_
  refine XS.ifNo X39.here hx rfl (hb hby d4_10) rfl ((if0 _ _).trans (flt hc42).1) ?_
  refine XS.iinc X39.here hx rfl (hb hby d4_13) rfl (l' := #[rv a1, iv (6:Int32), iv p40]) rfl ?_
  refine aN X39 hx hby d4_16 rfl rfl ?_
  refine XS.bipush X39.here hx rfl (hb hby d4_17) ?_
  refine iN X39 hx hby d4_19 rfl ?_
  refine iC X39 hx hby d4_20 ?_
  refine XS.iadd X39.here hx rfl (hb hby d4_21) rfl ?_
  refine st44.trans ?_
  show St p e below T44 m 25 #[rv a1, iv (6:Int32), iv p40] [(.int (own_ix c7 (p40 + (1:Int32))))] _
  rw [H46]
  refine XS.istoreN X44.here hx rfl (hb hby d4_25) rfl (l' := #[rv a1, iv (6:Int32), iv p45]) rfl ?_
  refine XS.goto X44.here hx rfl (pc0 := 26) (pc' := 9) rfl (hb hby d4_26) (by decide) (by decide) ?_
  refine iN X44 hx hby d4_9 rfl ?_
  refine XS.ifYes X44.here hx rfl (pc0 := 10) (pc' := 29) rfl (hb hby d4_10) rfl ((if0 _ _).trans (tlt hc47).1) (by decide) (by decide) ?_
  refine iN X44 hx hby d4_29 rfl ?_
  show St p e below T44 m 30 #[rv a1, iv (6:Int32), iv p45] [(.int (6:Int32))] _
  exact retI X44 hx Bd.returns (hb hby d4_30) hr
abbrev xE5 (Z : State) (h : Heap) (a : Addr) : Prop := Exa Z h a "[Ljava/lang/String;"
abbrev y3 : MethodName := ⟨"com/example/novation/novation/Csv", "fields", "(Ljava/lang/String;)[Ljava/lang/String;"⟩
def r3_1Q (Z : State) (a1 a4 : Addr) (k6 : ClassId) (c7 : List Int32) (p9 p14:Int32) (k25 : Value) (h0 : Heap) (n0 : Nat) : QT := fun v h L => own_fldQ Z c7 h0 n0 v h L
theorem r3_1 (l : Launch) (Z : State) (a0 : Array Value) (hw : HW a0 Z) (ws : List Jvm.Cond) (a1 a4 : Addr) (k6 : ClassId) (c7 : List Int32) (p9 p14:Int32) (k25 : Value) (h0 : Heap) (n0 : Nat) (O0 : Old Z n0 h0) (H2 : xE1 Z h0 a1) (H3 : xF2 Z h0 a1 (.int (0:Int32))) (H5 : xF3 Z h0 a1 (.ref a4)) (H8 : Arv Z h0 a4 k6 .byte (own_tn c7) (own_tb c7) (.int (0:Int32))) (H10 : Sta Z Z.heap "java/lang/String" "COMPACT_STRINGS" "Z" (.int p9)) (hc11 : ¬ (p9 = (0:Int32))) (H12 : own_GT c7) (hc13 : own_po c7 (0:Int32)) (H15 : (own_ix c7 (0:Int32)) = p14) (hc16 : p14 < (0:Int32)) (H26 : Sta Z Z.heap "jdk/internal/util/Preconditions" "SIOOBE_FORMATTER" "Ljava/util/function/BiFunction;" k25) (H27 : k25.isRef = true) (hc28 : own_rng c7 (0:Int32) (own_tn c7)) (H45 : own_sp c7 = [(own_sub c7 (0:Int32) (own_tn c7))]) :
    MFH l y3 cP22_2 5 (some (.array (.object "java/lang/String"))) ws (rM 6 15 77 95) Z #[(.ref a1)] h0 (r3_1Q Z a1 a4 k6 c7 p9 p14 k25 h0 n0) := by
  refine own_inH (pq pn1) #[rv a1, un, un, un, un] (fun _ => by first | (simp [entryFrame, mkF, argsToLocals, Value.category]; done) | rfl) ?_
  intro p e s m below meth c s₁ Bd hx hby hml hown hnm hZ hh C0 e0 X0
  have N0 := Fr.nil n0
  obtain ⟨_, _, _, X17, hQ17, st17⟩ := cS X0 hx hZ hw hown (y := y4) 20 rfl 21 rfl 18 rfl 22 rfl (by decide) (W := 0) (r4_1 l Z a0 hw [] a1 a4 k6 c7 p9 p14 h0 n0 O0 H2 H3 H5 H8 H10 hc11 H12 hc13 H15 hc16) (by decide) (by decide) e0 (g := (mkF m 1 #[rv a1, un, un, un, un] [(.ref a1)])) rfl (by rw [hml]; rfl) (argsL := [(.ref a1)]) (rest := []) (lenOf pd6 rfl) rfl wf (hb hby d3_1) rfl (by decide) (by decide)
  obtain ⟨rfl, N17q, e17⟩ := hQ17
  have N17 := Fr.app N0 N17q
  obtain ⟨_, h18, k18, X18, e18, E18, A18, C18, Ov18, st18⟩ := newRE X17 hx hZ hown (ow hw 65 rfl) (ow hw 66 rfl) e17 (g := (mkF m 6 #[rv a1, un, un, un, un] [(.int (1:Int32))])) rfl (hb hby d3_6) rfl (by decide) (cap := 1) (by decide) (by decide) (by decide) (by decide) (ad := "[Ljava/lang/String;") (by decide)
  obtain ⟨b18, g18⟩ : ∃ z, z = h0.size := ⟨_, rfl⟩
  rw [← g18] at A18 C18 st18
  have O_E18 : Old Z n0 h18 := O0.ext E18
  have Kp_E18 : Keep h0 h18 [] := (Keep.refl h0 []).ext E18
  have c_E18 := CHr.ext E18 C0.1
  have C_E18 := C0.trans c_E18
  have V18 : Arv Z h18 b18 k18 (.object "java/lang/String") (1:Int32) [.null] .null := (Arv.new A18 (by decide)).pad (pad_rep [] .null 1)
  obtain ⟨_, Ar19, _, S19, M19, _, _⟩ := id V18
  obtain ⟨_, Ar20, _, S20, M20, _, _⟩ := id V18
  have f21 := (H2.ext E18)
  have f22 := (H3.ext E18)
  have f23 := (H5.ext E18)
  have f24 := (H8.ext E18)
  obtain ⟨_, _, q29a, _, q29c⟩ := isOf hZ e18 f21
  obtain ⟨T29, _, _, X29, hSq29, hg29, Cq29, hQ29, st29⟩ := flH X18 (X18.virtualBackS hx (y := y14) (z := y14) hown (mo hZ hw 67 rfl) (mo hZ hw 68 rfl) (notFace_of_selects (args := #[]) (mo hZ hw 70 rfl)) (mo hZ hw 70 rfl) (mo hZ hw 69 rfl) (by decide) (backOfSH (s := s) (vm0 := s.vm) (W := 2) (r14_1 l Z a0 hw [] a1 a4 k6 c7 p9 k25 h18 n0 O_E18 f21 f22 f23 f24 H10 hc11 H12 H26 H27 hc28) hZ (ow hw 71 rfl) (ow hw 9 rfl) (by decide) (by decide) (own_EW hw) C_E18.1) q29a q29c (g := (mkF m 59 #[rv a1, rv b18, iv (0:Int32), iv (0:Int32), un] [(.int (0:Int32)), (.ref a1), (.int (0:Int32)), (.ref b18)])) rfl (by rw [hml]; rfl) (Steps.refl _) (argsL := [(.int (0:Int32))]) (rest := [(.int (0:Int32)), (.ref b18)]) (lenOf pd7 rfl) rfl wf (hb hby d3_59) (fun _ _ => ⟨rfl, e18, (by decide : 1 + 2 ≤ _), (by decide : 1 + 10 ≤ _)⟩))
  obtain ⟨Y29, hS29, hZ29, _⟩ := rebS (s := s) (vm0 := s.vm) (State.WarmedH.since (State.WarmedH.refl s) 0) (by rw [e18]; exact (Nat.zero_le _)) X29 hSq29 hg29 hZ hown
  obtain ⟨b29_0, b29_1, k29_0, rfl, N29q, K29, f29_1, f29_2, f29_3, f29_4⟩ := hQ29
  have N29 := Fr.app N17 N29q
  have Kp_K29 : Keep h0 T29.heap [] := Kp_E18.trans K29 all0
  have c_K29 := Cq29
  have C_K29 := C_E18.trans c_K29
  have f30 := (C18.keep K29)
  have ne31 := Exa.ne f30 f29_1 (by decide)
  have f32 := (V18.keep K29 nin0)
  have ne33 := own_neAA f32 f29_4 (by decide)
  obtain ⟨cl34, Ar34, q34, S34, M34, H34, G34⟩ := id f32
  have hin34 : ¬ ((0:Int32) < 0 ∨ cl34.slots.size ≤ ((0:Int32)).toNatClampNeg) := inb_of S34 ⟨by decide, by decide⟩
  have f35 := Ov18
  obtain ⟨T34, h34, X34, e34, W34, st34⟩ := stR Y29 hx hZ29 rfl Ar34 (j := (0:Int32)) hin34 rfl (Sto.ofV Ar34 q34 f35 (Ins.self f29_1)) (g := (mkF m 62 #[rv a1, rv b18, iv (0:Int32), iv (0:Int32), un] [(.ref b29_0), (.int (0:Int32)), (.ref b18)])) rfl rfl (hb hby d3_62)
  have g37 : n0 ≤ b18 := Nat.le_trans (Nat.le_trans (Nat.le_of_eq O0.1.symm) O0.2.1) (Nat.le_of_eq g18.symm)
  have z38 : h0.size ≤ b18 := Nat.le_trans (Keep.refl h0 []).1 (Nat.le_of_eq g18.symm)
  have sf39 := (c_K29.safe C18.lt (Safe.ext E18 C0.1 (Safe.new (Nat.le_of_eq g18.symm))))
  have Kp_W34 : Keep h0 h34 [] := Kp_K29.wr W34 (Or.inr z38)
  have c_W34 := CHr.wr W34 sf39 C_K29.1
  have C_W34 := C_K29.trans c_W34
  have N40 := Fr.snoc X34 N29 g37
  have f36 : Arv Z h34 b18 k18 (.object "java/lang/String") (1:Int32) [(.ref b29_0)] .null := Arv.set Ar34 q34 S34 M34 H34 G34 rfl W34 0 rfl (Nat.le_of_ble_eq_true rfl)
  have f41 := (f29_1.wr W34)
  have f42 := (f29_3.other W34 (Or.inl (Ne.symm ne31)))
  have f43 := (f29_2.other W34 (Or.inl (Ne.symm ne31)))
  have f44 := (f29_4.other W34 (Ne.symm ne33))
  refine finH (Q := r3_1Q Z a1 a4 k6 c7 p9 p14 k25 h0 n0) (rm := (rM 6 15 77 95)) (vm := T29.vm) Bd X34 hZ29 (own_EW hw) C_W34 hh e34 hS29 (Nat.le_trans (Nat.le_refl _) (Keep.of_wr W34).1) (some (.ref b18)) nofun ⟨b18, rfl, N40, Kp_W34, z38, own_rows (rs := [b29_0]) H45 (Nat.le_of_ble_eq_true rfl) f36 ⟨⟨b29_1, k29_0, f41, f43, f42, f44⟩, trivial⟩⟩ (by decide) (by decide) fun fs hr => ?_
  show St p e below s₁ m 0 #[rv a1, un, un, un, un] [] _
  refine aN X0 hx hby d3_0 rfl rfl ?_
  refine st17 _ ?_
  refine iC X17 hx hby d3_4 ?_
  refine XS.iadd X17.here hx rfl (hb hby d3_5) rfl ?_
  refine st18 _ ?_
  refine XS.astoreN X18.here hx rfl (hb hby d3_9) rfl rfl (l' := #[rv a1, rv b18, un, un, un]) rfl ?_
  refine iC X18 hx hby d3_10 ?_
  refine XS.istoreN X18.here hx rfl (hb hby d3_11) rfl (l' := #[rv a1, rv b18, iv (0:Int32), un, un]) rfl ?_
  refine iC X18 hx hby d3_12 ?_
  refine XS.istoreN X18.here hx rfl (hb hby d3_13) rfl (l' := #[rv a1, rv b18, iv (0:Int32), iv (0:Int32), un]) rfl ?_
  refine iN X18 hx hby d3_14 rfl ?_
  refine aN X18 hx hby d3_15 rfl rfl ?_
  refine X18.arraylength hx (by rw [e18]; exact Ar19.1) (State.isArrayOf_alike hZ.alike Ar19.2.1) (g := (mkF m 16 #[rv a1, rv b18, iv (0:Int32), iv (0:Int32), un] [(.ref b18), (.int (0:Int32))])) rfl rfl (hb hby d3_16) _ ?_
  rw [len_of S19 M19]
  refine iC X18 hx hby d3_17 ?_
  refine XS.isub X18.here hx rfl (hb hby d3_18) rfl ?_
  refine XS.icmpYes X18.here hx rfl (pc0 := 19) (pc' := 52) rfl (hb hby d3_19) rfl (flt (by decide : ¬ ((0:Int32) < (0:Int32)))).2.1 (by decide) (by decide) ?_
  refine aN X18 hx hby d3_52 rfl rfl ?_
  refine aN X18 hx hby d3_53 rfl rfl ?_
  refine X18.arraylength hx (by rw [e18]; exact Ar20.1) (State.isArrayOf_alike hZ.alike Ar20.2.1) (g := (mkF m 54 #[rv a1, rv b18, iv (0:Int32), iv (0:Int32), un] [(.ref b18), (.ref b18)])) rfl rfl (hb hby d3_54) _ ?_
  rw [len_of S20 M20]
  refine iC X18 hx hby d3_55 ?_
  refine XS.isub X18.here hx rfl (hb hby d3_56) rfl ?_
  refine aN X18 hx hby d3_57 rfl rfl ?_
  refine iN X18 hx hby d3_58 rfl ?_
  refine st29.trans ?_
  refine st34 _ ?_
  show St p e below T34 m 63 #[rv a1, rv b18, iv (0:Int32), iv (0:Int32), un] [] _
  refine aN X34 hx hby d3_63 rfl rfl ?_
  exact retA X34 hx Bd.returns rfl rfl (hb hby d3_64) hr
def r3_2Q (Z : State) (a1 a4 : Addr) (k6 : ClassId) (c7 : List Int32) (p9 p14 p18:Int32) (k29 : Value) (h0 : Heap) (n0 : Nat) : QT := fun v h L => own_fldQ Z c7 h0 n0 v h L
theorem r3_2 (l : Launch) (Z : State) (a0 : Array Value) (hw : HW a0 Z) (ws : List Jvm.Cond) (a1 a4 : Addr) (k6 : ClassId) (c7 : List Int32) (p9 p14 p18:Int32) (k29 : Value) (h0 : Heap) (n0 : Nat) (O0 : Old Z n0 h0) (H2 : xE1 Z h0 a1) (H3 : xF2 Z h0 a1 (.int (0:Int32))) (H5 : xF3 Z h0 a1 (.ref a4)) (H8 : Arv Z h0 a4 k6 .byte (own_tn c7) (own_tb c7) (.int (0:Int32))) (H10 : Sta Z Z.heap "java/lang/String" "COMPACT_STRINGS" "Z" (.int p9)) (hc11 : ¬ (p9 = (0:Int32))) (H12 : own_GT c7) (hc13 : own_po c7 (0:Int32)) (H15 : (own_ix c7 (0:Int32)) = p14) (hc16 : ¬ (p14 < (0:Int32))) (hc17 : own_po c7 (p14 + (1:Int32))) (H19 : (own_ix c7 (p14 + (1:Int32))) = p18) (hc20 : p18 < (0:Int32)) (H30 : Sta Z Z.heap "jdk/internal/util/Preconditions" "SIOOBE_FORMATTER" "Ljava/util/function/BiFunction;" k29) (H31 : k29.isRef = true) (hc32 : own_rng c7 (0:Int32) p14) (hc53 : own_rng c7 (p14 + (1:Int32)) (own_tn c7)) (H72 : own_sp c7 = [(own_sub c7 (0:Int32) p14), (own_sub c7 (p14 + (1:Int32)) (own_tn c7))]) :
    MFH l y3 cP22_2 5 (some (.array (.object "java/lang/String"))) ws (rM 6 15 77 95) Z #[(.ref a1)] h0 (r3_2Q Z a1 a4 k6 c7 p9 p14 p18 k29 h0 n0) := by
  refine own_inH (pq pn1) #[rv a1, un, un, un, un] (fun _ => by first | (simp [entryFrame, mkF, argsToLocals, Value.category]; done) | rfl) ?_
  intro p e s m below meth c s₁ Bd hx hby hml hown hnm hZ hh C0 e0 X0
  have N0 := Fr.nil n0
  obtain ⟨_, _, _, X21, hQ21, st21⟩ := cS X0 hx hZ hw hown (y := y4) 20 rfl 21 rfl 18 rfl 22 rfl (by decide) (W := 0) (r4_2 l Z a0 hw [] a1 a4 k6 c7 p9 p14 p18 h0 n0 O0 H2 H3 H5 H8 H10 hc11 H12 hc13 H15 hc16 hc17 H19 hc20) (by decide) (by decide) e0 (g := (mkF m 1 #[rv a1, un, un, un, un] [(.ref a1)])) rfl (by rw [hml]; rfl) (argsL := [(.ref a1)]) (rest := []) (lenOf pd6 rfl) rfl wf (hb hby d3_1) rfl (by decide) (by decide)
  obtain ⟨rfl, N21q, e21⟩ := hQ21
  have N21 := Fr.app N0 N21q
  obtain ⟨_, h22, k22, X22, e22, E22, A22, C22, Ov22, st22⟩ := newRE X21 hx hZ hown (ow hw 65 rfl) (ow hw 66 rfl) e21 (g := (mkF m 6 #[rv a1, un, un, un, un] [(.int (2:Int32))])) rfl (hb hby d3_6) rfl (by decide) (cap := 2) (by decide) (by decide) (by decide) (by decide) (ad := "[Ljava/lang/String;") (by decide)
  obtain ⟨b22, g22⟩ : ∃ z, z = h0.size := ⟨_, rfl⟩
  rw [← g22] at A22 C22 st22
  have O_E22 : Old Z n0 h22 := O0.ext E22
  have Kp_E22 : Keep h0 h22 [] := (Keep.refl h0 []).ext E22
  have c_E22 := CHr.ext E22 C0.1
  have C_E22 := C0.trans c_E22
  have V22 : Arv Z h22 b22 k22 (.object "java/lang/String") (2:Int32) [.null, .null] .null := (Arv.new A22 (by decide)).pad (pad_rep [] .null 2)
  obtain ⟨_, Ar23, _, S23, M23, _, _⟩ := id V22
  have f24 := (H2.ext E22)
  have f25 := (H3.ext E22)
  have f26 := (H5.ext E22)
  have f27 := (H8.ext E22)
  obtain ⟨T28, _, _, X28, hQ28, st28⟩ := cV X22 hx hZ hw hown (y := y6) 124 rfl 29 rfl 31 rfl 30 rfl 32 rfl 9 rfl (by decide) (W := 0) (own_idx l Z a0 hw [] a1 a4 k6 c7 (0:Int32) p9 h22 n0 O_E22 f24 H10 hc11 f25 f26 f27 H12 hc13) (by decide) (by decide) f24 e22 (g := (mkF m 26 #[rv a1, rv b22, iv (0:Int32), iv (0:Int32), un] [(.int (0:Int32)), (.int (44:Int32)), (.ref a1)])) rfl (by rw [hml]; rfl) (argsL := [(.int (44:Int32)), (.int (0:Int32))]) (rest := []) (lenOf pd14 rfl) rfl wf (hb hby d3_26) rfl (by decide) (by decide)
  obtain ⟨rfl, N28q, e28⟩ := hQ28
  have N28 := Fr.app N21 N28q
  obtain ⟨_, _, q33a, _, q33c⟩ := isOf hZ e28 f24
  obtain ⟨T33, _, _, X33, hSq33, hg33, Cq33, hQ33, st33⟩ := flH X28 (X28.virtualBackS hx (y := y15) (z := y15) hown (mo hZ hw 125 rfl) (mo hZ hw 73 rfl) (notFace_of_selects (args := #[]) (mo hZ hw 75 rfl)) (mo hZ hw 75 rfl) (mo hZ hw 74 rfl) (by decide) (backOfSH (s := s) (vm0 := s.vm) (W := 2) (own_substr l Z a0 hw [] a1 a4 k6 c7 (0:Int32) p14 p9 k29 h22 n0 O_E22 f24 f25 f26 f27 H10 hc11 H12 H30 H31 hc32) hZ (ow hw 76 rfl) (ow hw 9 rfl) (by decide) (by decide) (own_EW hw) C_E22.1) q33a q33c (g := (mkF m 37 #[rv a1, rv b22, iv (0:Int32), iv (0:Int32), iv p14] [(.int p14), (.int (0:Int32)), (.ref a1), (.int (0:Int32)), (.ref b22)])) rfl (by rw [hml]; rfl) (Steps.refl _) (argsL := [(.int (0:Int32)), (.int p14)]) (rest := [(.int (0:Int32)), (.ref b22)]) (lenOf pd5 rfl) rfl wf (hb hby d3_37) (fun _ _ => ⟨rfl, e28, (by decide : 1 + 2 ≤ _), (by decide : 2 + 10 ≤ _)⟩))
  obtain ⟨Y33, hS33, hZ33, hown33⟩ := rebS (s := s) (vm0 := s.vm) (State.WarmedH.since (State.WarmedH.refl s) 0) (by rw [e28]; exact (Nat.zero_le _)) X33 hSq33 hg33 hZ hown
  obtain ⟨b33_0, b33_1, k33_0, rfl, N33q, K33, f33_1, f33_2, f33_3, f33_4⟩ := hQ33
  have N33 := Fr.app N28 N33q
  have O_K33 : Old Z n0 T33.heap := O_E22.keep K33 all0
  have Kp_K33 : Keep h0 T33.heap [] := Kp_E22.trans K33 all0
  have c_K33 := Cq33
  have C_K33 := C_E22.trans c_K33
  have f34 := (C22.keep K33)
  have ne35 := Exa.ne f34 f33_1 (by decide)
  have f36 := (V22.keep K33 nin0)
  have ne37 := own_neAA f36 f33_4 (by decide)
  obtain ⟨cl38, Ar38, q38, S38, M38, H38, G38⟩ := id f36
  have hin38 : ¬ ((0:Int32) < 0 ∨ cl38.slots.size ≤ ((0:Int32)).toNatClampNeg) := inb_of S38 ⟨by decide, by decide⟩
  have f39 := Ov22
  obtain ⟨_, h38, X38, e38, W38, st38⟩ := stR Y33 hx hZ33 rfl Ar38 (j := (0:Int32)) hin38 rfl (Sto.ofV Ar38 q38 f39 (Ins.self f33_1)) (g := (mkF m 40 #[rv a1, rv b22, iv (0:Int32), iv (0:Int32), iv p14] [(.ref b33_0), (.int (0:Int32)), (.ref b22)])) rfl rfl (hb hby d3_40)
  have g41 : n0 ≤ b22 := Nat.le_trans (Nat.le_trans (Nat.le_of_eq O0.1.symm) O0.2.1) (Nat.le_of_eq g22.symm)
  have z42 : h0.size ≤ b22 := Nat.le_trans (Keep.refl h0 []).1 (Nat.le_of_eq g22.symm)
  have sf43 := (c_K33.safe C22.lt (Safe.ext E22 C0.1 (Safe.new (Nat.le_of_eq g22.symm))))
  have O_W38 : Old Z n0 h38 := O_K33.wr W38 g41
  have Kp_W38 : Keep h0 h38 [] := Kp_K33.wr W38 (Or.inr z42)
  have c_W38 := CHr.wr W38 sf43 C_K33.1
  have C_W38 := C_K33.trans c_W38
  have N44 := Fr.snoc X38 N33 g41
  have f40 : Arv Z h38 b22 k22 (.object "java/lang/String") (2:Int32) [(.ref b33_0), .null] .null := Arv.set Ar38 q38 S38 M38 H38 G38 rfl W38 0 rfl (Nat.le_of_ble_eq_true rfl)
  obtain ⟨_, Ar45, _, S45, M45, _, _⟩ := id f40
  obtain ⟨_, Ar46, _, S46, M46, _, _⟩ := id f40
  have f47 := ((f24.keep K33).wr W38)
  have ne48 : a1 ≠ b22 := Nat.ne_of_lt (Nat.lt_of_lt_of_le H2.lt (Nat.le_of_eq g22.symm))
  have f49 := ((f25.keep K33 nin0).other W38 (Or.inl ne48))
  have f50 := ((f26.keep K33 nin0).other W38 (Or.inl ne48))
  have ne51 : a4 ≠ b22 := Nat.ne_of_lt (Nat.lt_of_lt_of_le H8.lt (Nat.le_of_eq g22.symm))
  have f52 := ((f27.keep K33 nin0).other W38 ne51)
  obtain ⟨_, _, q54a, _, q54c⟩ := isOf hZ33 e38 f47
  obtain ⟨T54, _, _, X54, hSq54, hg54, Cq54, hQ54, st54⟩ := flH X38 (X38.virtualBackS hx (y := y14) (z := y14) hown33 (mo hZ33 hw 67 rfl) (mo hZ33 hw 68 rfl) (notFace_of_selects (args := #[]) (mo hZ33 hw 70 rfl)) (mo hZ33 hw 70 rfl) (mo hZ33 hw 69 rfl) (by decide) (backOfSH (s := s) (vm0 := T33.vm) (W := 2) (r14_2 l Z a0 hw [] a1 (p14 + (1:Int32)) a4 k6 c7 p9 k29 h38 n0 O_W38 f47 f49 f50 f52 H10 hc11 H12 H30 H31 hc53) hZ33 (ow hw 71 rfl) (ow hw 9 rfl) (by decide) (by decide) (own_EW hw) C_W38.1) q54a q54c (g := (mkF m 59 #[rv a1, rv b22, iv (p14 + (1:Int32)), iv (1:Int32), iv p14] [(.int (p14 + (1:Int32))), (.ref a1), (.int (1:Int32)), (.ref b22)])) rfl (by rw [hml]; rfl) (Steps.refl _) (argsL := [(.int (p14 + (1:Int32)))]) (rest := [(.int (1:Int32)), (.ref b22)]) (lenOf pd7 rfl) rfl wf (hb hby d3_59) (fun _ _ => ⟨rfl, e38, (by decide : 3 + 2 ≤ _), (by decide : 12 + 10 ≤ _)⟩))
  obtain ⟨Y54, hS54, hZ54, _⟩ := rebS (s := s) (vm0 := T33.vm) hS33 (by rw [e38]; exact (Nat.le_trans (Nat.le_refl _) (Keep.of_wr W38).1)) X54 hSq54 hg54 hZ33 hown33
  obtain ⟨b54_0, b54_1, k54_0, rfl, N54q, K54, f54_1, f54_2, f54_3, f54_4⟩ := hQ54
  have N54 := Fr.app N44 N54q
  have Kp_K54 : Keep h0 T54.heap [] := Kp_W38.trans K54 all0
  have c_K54 := Cq54
  have C_K54 := C_W38.trans c_K54
  have f55 := ((f34.wr W38).keep K54)
  have ne56 := Exa.ne f55 f54_1 (by decide)
  have f57 := (f40.keep K54 nin0)
  have ne58 := own_neAA f57 f54_4 (by decide)
  obtain ⟨cl59, Ar59, q59, S59, M59, H59, G59⟩ := id f57
  have hin59 : ¬ ((1:Int32) < 0 ∨ cl59.slots.size ≤ ((1:Int32)).toNatClampNeg) := inb_of S59 ⟨by decide, by decide⟩
  have f60 := f39
  obtain ⟨T59, h59, X59, e59, W59, st59⟩ := stR Y54 hx hZ54 rfl Ar59 (j := (1:Int32)) hin59 rfl (Sto.ofV Ar59 q59 f60 (Ins.self f54_1)) (g := (mkF m 62 #[rv a1, rv b22, iv (p14 + (1:Int32)), iv (1:Int32), iv p14] [(.ref b54_0), (.int (1:Int32)), (.ref b22)])) rfl rfl (hb hby d3_62)
  have sf62 := (c_K54.safe ((C22.keep K33).wr W38).lt (c_W38.safe (C22.keep K33).lt sf43))
  have Kp_W59 : Keep h0 h59 [] := Kp_K54.wr W59 (Or.inr z42)
  have c_W59 := CHr.wr W59 sf62 C_K54.1
  have C_W59 := C_K54.trans c_W59
  have N63 := Fr.snoc X59 N54 g41
  have f61 : Arv Z h59 b22 k22 (.object "java/lang/String") (2:Int32) [(.ref b33_0), (.ref b54_0)] .null := Arv.set Ar59 q59 S59 M59 H59 G59 rfl W59 1 rfl (Nat.le_of_ble_eq_true rfl)
  have f64 := (((f33_1.wr W38).keep K54).wr W59)
  have f65 := (((f33_3.other W38 (Or.inl (Ne.symm ne35))).keep K54 nin0).other W59 (Or.inl (Ne.symm ne35)))
  have f66 := (((f33_2.other W38 (Or.inl (Ne.symm ne35))).keep K54 nin0).other W59 (Or.inl (Ne.symm ne35)))
  have f67 := (((f33_4.other W38 (Ne.symm ne37)).keep K54 nin0).other W59 (Ne.symm ne37))
  have f68 := (f54_1.wr W59)
  have f69 := (f54_3.other W59 (Or.inl (Ne.symm ne56)))
  have f70 := (f54_2.other W59 (Or.inl (Ne.symm ne56)))
  have f71 := (f54_4.other W59 (Ne.symm ne58))
  refine finH (Q := r3_2Q Z a1 a4 k6 c7 p9 p14 p18 k29 h0 n0) (rm := (rM 6 15 77 95)) (vm := T54.vm) Bd X59 hZ54 (own_EW hw) C_W59 hh e59 hS54 (Nat.le_trans (Nat.le_refl _) (Keep.of_wr W59).1) (some (.ref b22)) nofun ⟨b22, rfl, N63, Kp_W59, z42, own_rows (rs := [b33_0, b54_0]) H72 (Nat.le_of_ble_eq_true rfl) f61 ⟨⟨b33_1, k33_0, f64, f66, f65, f67⟩, ⟨b54_1, k54_0, f68, f70, f69, f71⟩, trivial⟩⟩ (by decide) (by decide) fun fs hr => ?_
  show St p e below s₁ m 0 #[rv a1, un, un, un, un] [] _
  refine aN X0 hx hby d3_0 rfl rfl ?_
  refine st21 _ ?_
  refine iC X21 hx hby d3_4 ?_
  refine XS.iadd X21.here hx rfl (hb hby d3_5) rfl ?_
  refine st22 _ ?_
  refine XS.astoreN X22.here hx rfl (hb hby d3_9) rfl rfl (l' := #[rv a1, rv b22, un, un, un]) rfl ?_
  refine iC X22 hx hby d3_10 ?_
  refine XS.istoreN X22.here hx rfl (hb hby d3_11) rfl (l' := #[rv a1, rv b22, iv (0:Int32), un, un]) rfl ?_
  refine iC X22 hx hby d3_12 ?_
  refine XS.istoreN X22.here hx rfl (hb hby d3_13) rfl (l' := #[rv a1, rv b22, iv (0:Int32), iv (0:Int32), un]) rfl ?_
  refine iN X22 hx hby d3_14 rfl ?_
  refine aN X22 hx hby d3_15 rfl rfl ?_
  refine X22.arraylength hx (by rw [e22]; exact Ar23.1) (State.isArrayOf_alike hZ.alike Ar23.2.1) (g := (mkF m 16 #[rv a1, rv b22, iv (0:Int32), iv (0:Int32), un] [(.ref b22), (.int (0:Int32))])) rfl rfl (hb hby d3_16) _ ?_
  rw [len_of S23 M23]
  refine iC X22 hx hby d3_17 ?_
  refine XS.isub X22.here hx rfl (hb hby d3_18) rfl ?_
  refine XS.icmpNo X22.here hx rfl (hb hby d3_19) rfl (tlt (by decide : (0:Int32) < (1:Int32))).2.1 ?_
  refine aN X22 hx hby d3_22 rfl rfl ?_
  refine XS.bipush X22.here hx rfl (hb hby d3_23) ?_
  refine iN X22 hx hby d3_25 rfl ?_
  refine st28.trans ?_
  show St p e below T28 m 29 #[rv a1, rv b22, iv (0:Int32), iv (0:Int32), un] [(.int (own_ix c7 (0:Int32)))] _
  rw [H15]
  refine XS.istore X28.here hx rfl (hb hby d3_29) rfl (l' := #[rv a1, rv b22, iv (0:Int32), iv (0:Int32), iv p14]) rfl ?_
  refine aN X28 hx hby d3_31 rfl rfl ?_
  refine iN X28 hx hby d3_32 rfl ?_
  refine aN X28 hx hby d3_33 rfl rfl ?_
  refine iN X28 hx hby d3_34 rfl ?_
  show St p e below T28 m 35 #[rv a1, rv b22, iv (0:Int32), iv (0:Int32), iv p14] [(.int (0:Int32)), (.ref a1), (.int (0:Int32)), (.ref b22)] _
  refine iL X28 hx hby d3_35 rfl ?_
  refine st33.trans ?_
  refine st38 _ ?_
  refine iL X38 hx hby d3_41 rfl ?_
  refine iC X38 hx hby d3_43 ?_
  refine XS.iadd X38.here hx rfl (hb hby d3_44) rfl ?_
  refine XS.istoreN X38.here hx rfl (hb hby d3_45) rfl (l' := #[rv a1, rv b22, iv (p14 + (1:Int32)), iv (0:Int32), iv p14]) rfl ?_
  refine XS.iinc X38.here hx rfl (hb hby d3_46) rfl (l' := #[rv a1, rv b22, iv (p14 + (1:Int32)), iv (1:Int32), iv p14]) rfl ?_
  refine XS.goto X38.here hx rfl (pc0 := 49) (pc' := 14) rfl (hb hby d3_49) (by decide) (by decide) ?_
  refine iN X38 hx hby d3_14 rfl ?_
  refine aN X38 hx hby d3_15 rfl rfl ?_
  refine X38.arraylength hx (by rw [e38]; exact Ar45.1) (State.isArrayOf_alike hZ33.alike Ar45.2.1) (g := (mkF m 16 #[rv a1, rv b22, iv (p14 + (1:Int32)), iv (1:Int32), iv p14] [(.ref b22), (.int (1:Int32))])) rfl rfl (hb hby d3_16) _ ?_
  rw [len_of S45 M45]
  refine iC X38 hx hby d3_17 ?_
  refine XS.isub X38.here hx rfl (hb hby d3_18) rfl ?_
  refine XS.icmpYes X38.here hx rfl (pc0 := 19) (pc' := 52) rfl (hb hby d3_19) rfl (flt (by decide : ¬ ((1:Int32) < (1:Int32)))).2.1 (by decide) (by decide) ?_
  refine aN X38 hx hby d3_52 rfl rfl ?_
  refine aN X38 hx hby d3_53 rfl rfl ?_
  refine X38.arraylength hx (by rw [e38]; exact Ar46.1) (State.isArrayOf_alike hZ33.alike Ar46.2.1) (g := (mkF m 54 #[rv a1, rv b22, iv (p14 + (1:Int32)), iv (1:Int32), iv p14] [(.ref b22), (.ref b22)])) rfl rfl (hb hby d3_54) _ ?_
  rw [len_of S46 M46]
  refine iC X38 hx hby d3_55 ?_
  refine XS.isub X38.here hx rfl (hb hby d3_56) rfl ?_
  refine aN X38 hx hby d3_57 rfl rfl ?_
  refine iN X38 hx hby d3_58 rfl ?_
  refine st54.trans ?_
  refine st59 _ ?_
  refine aN X59 hx hby d3_63 rfl rfl ?_
  show St p e below T59 m 64 #[rv a1, rv b22, iv (p14 + (1:Int32)), iv (1:Int32), iv p14] [(.ref b22)] _
  exact retA X59 hx Bd.returns rfl rfl (hb hby d3_64) hr
def r3_3Q (Z : State) (a1 a4 : Addr) (k6 : ClassId) (c7 : List Int32) (p9 p14 p18 p22:Int32) (k33 : Value) (h0 : Heap) (n0 : Nat) : QT := fun v h L => own_fldQ Z c7 h0 n0 v h L
theorem r3_3 (l : Launch) (Z : State) (a0 : Array Value) (hw : HW a0 Z) (ws : List Jvm.Cond) (a1 a4 : Addr) (k6 : ClassId) (c7 : List Int32) (p9 p14 p18 p22:Int32) (k33 : Value) (h0 : Heap) (n0 : Nat) (O0 : Old Z n0 h0) (H2 : xE1 Z h0 a1) (H3 : xF2 Z h0 a1 (.int (0:Int32))) (H5 : xF3 Z h0 a1 (.ref a4)) (H8 : Arv Z h0 a4 k6 .byte (own_tn c7) (own_tb c7) (.int (0:Int32))) (H10 : Sta Z Z.heap "java/lang/String" "COMPACT_STRINGS" "Z" (.int p9)) (hc11 : ¬ (p9 = (0:Int32))) (H12 : own_GT c7) (hc13 : own_po c7 (0:Int32)) (H15 : (own_ix c7 (0:Int32)) = p14) (hc16 : ¬ (p14 < (0:Int32))) (hc17 : own_po c7 (p14 + (1:Int32))) (H19 : (own_ix c7 (p14 + (1:Int32))) = p18) (hc20 : ¬ (p18 < (0:Int32))) (hc21 : own_po c7 (p18 + (1:Int32))) (H23 : (own_ix c7 (p18 + (1:Int32))) = p22) (hc24 : p22 < (0:Int32)) (H34 : Sta Z Z.heap "jdk/internal/util/Preconditions" "SIOOBE_FORMATTER" "Ljava/util/function/BiFunction;" k33) (H35 : k33.isRef = true) (hc36 : own_rng c7 (0:Int32) p14) (hc57 : own_rng c7 (p14 + (1:Int32)) p18) (hc74 : own_rng c7 (p18 + (1:Int32)) (own_tn c7)) (H97 : own_sp c7 = [(own_sub c7 (0:Int32) p14), (own_sub c7 (p14 + (1:Int32)) p18), (own_sub c7 (p18 + (1:Int32)) (own_tn c7))]) :
    MFH l y3 cP22_2 5 (some (.array (.object "java/lang/String"))) ws (rM 6 15 77 95) Z #[(.ref a1)] h0 (r3_3Q Z a1 a4 k6 c7 p9 p14 p18 p22 k33 h0 n0) := by
  refine own_inH (pq pn1) #[rv a1, un, un, un, un] (fun _ => by first | (simp [entryFrame, mkF, argsToLocals, Value.category]; done) | rfl) ?_
  intro p e s m below meth c s₁ Bd hx hby hml hown hnm hZ hh C0 e0 X0
  have N0 := Fr.nil n0
  obtain ⟨_, _, _, X25, hQ25, st25⟩ := cS X0 hx hZ hw hown (y := y4) 20 rfl 21 rfl 18 rfl 22 rfl (by decide) (W := 0) (r4_3 l Z a0 hw [] a1 a4 k6 c7 p9 p14 p18 p22 h0 n0 O0 H2 H3 H5 H8 H10 hc11 H12 hc13 H15 hc16 hc17 H19 hc20 hc21 H23 hc24) (by decide) (by decide) e0 (g := (mkF m 1 #[rv a1, un, un, un, un] [(.ref a1)])) rfl (by rw [hml]; rfl) (argsL := [(.ref a1)]) (rest := []) (lenOf pd6 rfl) rfl wf (hb hby d3_1) rfl (by decide) (by decide)
  obtain ⟨rfl, N25q, e25⟩ := hQ25
  have N25 := Fr.app N0 N25q
  obtain ⟨_, h26, k26, X26, e26, E26, A26, C26, Ov26, st26⟩ := newRE X25 hx hZ hown (ow hw 65 rfl) (ow hw 66 rfl) e25 (g := (mkF m 6 #[rv a1, un, un, un, un] [(.int (3:Int32))])) rfl (hb hby d3_6) rfl (by decide) (cap := 3) (by decide) (by decide) (by decide) (by decide) (ad := "[Ljava/lang/String;") (by decide)
  obtain ⟨b26, g26⟩ : ∃ z, z = h0.size := ⟨_, rfl⟩
  rw [← g26] at A26 C26 st26
  have O_E26 : Old Z n0 h26 := O0.ext E26
  have Kp_E26 : Keep h0 h26 [] := (Keep.refl h0 []).ext E26
  have c_E26 := CHr.ext E26 C0.1
  have C_E26 := C0.trans c_E26
  have V26 : Arv Z h26 b26 k26 (.object "java/lang/String") (3:Int32) [.null, .null, .null] .null := (Arv.new A26 (by decide)).pad (pad_rep [] .null 3)
  obtain ⟨_, Ar27, _, S27, M27, _, _⟩ := id V26
  have f28 := (H2.ext E26)
  have f29 := (H3.ext E26)
  have f30 := (H5.ext E26)
  have f31 := (H8.ext E26)
  obtain ⟨T32, _, _, X32, hQ32, st32⟩ := cV X26 hx hZ hw hown (y := y6) 124 rfl 29 rfl 31 rfl 30 rfl 32 rfl 9 rfl (by decide) (W := 0) (own_idx l Z a0 hw [] a1 a4 k6 c7 (0:Int32) p9 h26 n0 O_E26 f28 H10 hc11 f29 f30 f31 H12 hc13) (by decide) (by decide) f28 e26 (g := (mkF m 26 #[rv a1, rv b26, iv (0:Int32), iv (0:Int32), un] [(.int (0:Int32)), (.int (44:Int32)), (.ref a1)])) rfl (by rw [hml]; rfl) (argsL := [(.int (44:Int32)), (.int (0:Int32))]) (rest := []) (lenOf pd14 rfl) rfl wf (hb hby d3_26) rfl (by decide) (by decide)
  obtain ⟨rfl, N32q, e32⟩ := hQ32
  have N32 := Fr.app N25 N32q
  obtain ⟨_, _, q37a, _, q37c⟩ := isOf hZ e32 f28
  obtain ⟨T37, _, _, X37, hSq37, hg37, Cq37, hQ37, st37⟩ := flH X32 (X32.virtualBackS hx (y := y15) (z := y15) hown (mo hZ hw 125 rfl) (mo hZ hw 73 rfl) (notFace_of_selects (args := #[]) (mo hZ hw 75 rfl)) (mo hZ hw 75 rfl) (mo hZ hw 74 rfl) (by decide) (backOfSH (s := s) (vm0 := s.vm) (W := 2) (own_substr l Z a0 hw [] a1 a4 k6 c7 (0:Int32) p14 p9 k33 h26 n0 O_E26 f28 f29 f30 f31 H10 hc11 H12 H34 H35 hc36) hZ (ow hw 76 rfl) (ow hw 9 rfl) (by decide) (by decide) (own_EW hw) C_E26.1) q37a q37c (g := (mkF m 37 #[rv a1, rv b26, iv (0:Int32), iv (0:Int32), iv p14] [(.int p14), (.int (0:Int32)), (.ref a1), (.int (0:Int32)), (.ref b26)])) rfl (by rw [hml]; rfl) (Steps.refl _) (argsL := [(.int (0:Int32)), (.int p14)]) (rest := [(.int (0:Int32)), (.ref b26)]) (lenOf pd5 rfl) rfl wf (hb hby d3_37) (fun _ _ => ⟨rfl, e32, (by decide : 1 + 2 ≤ _), (by decide : 3 + 10 ≤ _)⟩))
  obtain ⟨Y37, hS37, hZ37, hown37⟩ := rebS (s := s) (vm0 := s.vm) (State.WarmedH.since (State.WarmedH.refl s) 0) (by rw [e32]; exact (Nat.zero_le _)) X37 hSq37 hg37 hZ hown
  obtain ⟨b37_0, b37_1, k37_0, rfl, N37q, K37, f37_1, f37_2, f37_3, f37_4⟩ := hQ37
  have N37 := Fr.app N32 N37q
  have O_K37 : Old Z n0 T37.heap := O_E26.keep K37 all0
  have Kp_K37 : Keep h0 T37.heap [] := Kp_E26.trans K37 all0
  have c_K37 := Cq37
  have C_K37 := C_E26.trans c_K37
  have f38 := (C26.keep K37)
  have ne39 := Exa.ne f38 f37_1 (by decide)
  have f40 := (V26.keep K37 nin0)
  have ne41 := own_neAA f40 f37_4 (by decide)
  obtain ⟨cl42, Ar42, q42, S42, M42, H42, G42⟩ := id f40
  have hin42 : ¬ ((0:Int32) < 0 ∨ cl42.slots.size ≤ ((0:Int32)).toNatClampNeg) := inb_of S42 ⟨by decide, by decide⟩
  have f43 := Ov26
  obtain ⟨_, h42, X42, e42, W42, st42⟩ := stR Y37 hx hZ37 rfl Ar42 (j := (0:Int32)) hin42 rfl (Sto.ofV Ar42 q42 f43 (Ins.self f37_1)) (g := (mkF m 40 #[rv a1, rv b26, iv (0:Int32), iv (0:Int32), iv p14] [(.ref b37_0), (.int (0:Int32)), (.ref b26)])) rfl rfl (hb hby d3_40)
  have g45 : n0 ≤ b26 := Nat.le_trans (Nat.le_trans (Nat.le_of_eq O0.1.symm) O0.2.1) (Nat.le_of_eq g26.symm)
  have z46 : h0.size ≤ b26 := Nat.le_trans (Keep.refl h0 []).1 (Nat.le_of_eq g26.symm)
  have sf47 := (c_K37.safe C26.lt (Safe.ext E26 C0.1 (Safe.new (Nat.le_of_eq g26.symm))))
  have O_W42 : Old Z n0 h42 := O_K37.wr W42 g45
  have Kp_W42 : Keep h0 h42 [] := Kp_K37.wr W42 (Or.inr z46)
  have c_W42 := CHr.wr W42 sf47 C_K37.1
  have C_W42 := C_K37.trans c_W42
  have N48 := Fr.snoc X42 N37 g45
  have f44 : Arv Z h42 b26 k26 (.object "java/lang/String") (3:Int32) [(.ref b37_0), .null, .null] .null := Arv.set Ar42 q42 S42 M42 H42 G42 rfl W42 0 rfl (Nat.le_of_ble_eq_true rfl)
  obtain ⟨_, Ar49, _, S49, M49, _, _⟩ := id f44
  have f50 := ((f28.keep K37).wr W42)
  have ne51 : a1 ≠ b26 := Nat.ne_of_lt (Nat.lt_of_lt_of_le H2.lt (Nat.le_of_eq g26.symm))
  have f52 := ((f29.keep K37 nin0).other W42 (Or.inl ne51))
  have f53 := ((f30.keep K37 nin0).other W42 (Or.inl ne51))
  have ne54 : a4 ≠ b26 := Nat.ne_of_lt (Nat.lt_of_lt_of_le H8.lt (Nat.le_of_eq g26.symm))
  have f55 := ((f31.keep K37 nin0).other W42 ne54)
  obtain ⟨T56, _, _, X56, hQ56, st56⟩ := cV X42 hx hZ37 hw hown37 (y := y6) 124 rfl 29 rfl 31 rfl 30 rfl 32 rfl 9 rfl (by decide) (W := 0) (own_idx l Z a0 hw [] a1 a4 k6 c7 (p14 + (1:Int32)) p9 h42 n0 O_W42 f50 H10 hc11 f52 f53 f55 H12 hc17) (by decide) (by decide) f50 e42 (g := (mkF m 26 #[rv a1, rv b26, iv (p14 + (1:Int32)), iv (1:Int32), iv p14] [(.int (p14 + (1:Int32))), (.int (44:Int32)), (.ref a1)])) rfl (by rw [hml]; rfl) (argsL := [(.int (44:Int32)), (.int (p14 + (1:Int32)))]) (rest := []) (lenOf pd14 rfl) rfl wf (hb hby d3_26) rfl (by decide) (by decide)
  obtain ⟨rfl, N56q, e56⟩ := hQ56
  have N56 := Fr.app N48 N56q
  obtain ⟨_, _, q58a, _, q58c⟩ := isOf hZ37 e56 f50
  obtain ⟨T58, _, _, X58, hSq58, hg58, Cq58, hQ58, st58⟩ := flH X56 (X56.virtualBackS hx (y := y15) (z := y15) hown37 (mo hZ37 hw 125 rfl) (mo hZ37 hw 73 rfl) (notFace_of_selects (args := #[]) (mo hZ37 hw 75 rfl)) (mo hZ37 hw 75 rfl) (mo hZ37 hw 74 rfl) (by decide) (backOfSH (s := s) (vm0 := T37.vm) (W := 2) (own_substr l Z a0 hw [] a1 a4 k6 c7 (p14 + (1:Int32)) p18 p9 k33 h42 n0 O_W42 f50 f52 f53 f55 H10 hc11 H12 H34 H35 hc57) hZ37 (ow hw 76 rfl) (ow hw 9 rfl) (by decide) (by decide) (own_EW hw) C_W42.1) q58a q58c (g := (mkF m 37 #[rv a1, rv b26, iv (p14 + (1:Int32)), iv (1:Int32), iv p18] [(.int p18), (.int (p14 + (1:Int32))), (.ref a1), (.int (1:Int32)), (.ref b26)])) rfl (by rw [hml]; rfl) (Steps.refl _) (argsL := [(.int (p14 + (1:Int32))), (.int p18)]) (rest := [(.int (1:Int32)), (.ref b26)]) (lenOf pd5 rfl) rfl wf (hb hby d3_37) (fun _ _ => ⟨rfl, e56, (by decide : 3 + 2 ≤ _), (by decide : 13 + 10 ≤ _)⟩))
  obtain ⟨Y58, hS58, hZ58, hown58⟩ := rebS (s := s) (vm0 := T37.vm) hS37 (by rw [e56]; exact (Nat.le_trans (Nat.le_refl _) (Keep.of_wr W42).1)) X58 hSq58 hg58 hZ37 hown37
  obtain ⟨b58_0, b58_1, k58_0, rfl, N58q, K58, f58_1, f58_2, f58_3, f58_4⟩ := hQ58
  have N58 := Fr.app N56 N58q
  have O_K58 : Old Z n0 T58.heap := O_W42.keep K58 all0
  have Kp_K58 : Keep h0 T58.heap [] := Kp_W42.trans K58 all0
  have c_K58 := Cq58
  have C_K58 := C_W42.trans c_K58
  have f59 := ((f38.wr W42).keep K58)
  have ne60 := Exa.ne f59 f58_1 (by decide)
  have f61 := (f44.keep K58 nin0)
  have ne62 := own_neAA f61 f58_4 (by decide)
  obtain ⟨cl63, Ar63, q63, S63, M63, H63, G63⟩ := id f61
  have hin63 : ¬ ((1:Int32) < 0 ∨ cl63.slots.size ≤ ((1:Int32)).toNatClampNeg) := inb_of S63 ⟨by decide, by decide⟩
  have f64 := f43
  obtain ⟨_, h63, X63, e63, W63, st63⟩ := stR Y58 hx hZ58 rfl Ar63 (j := (1:Int32)) hin63 rfl (Sto.ofV Ar63 q63 f64 (Ins.self f58_1)) (g := (mkF m 40 #[rv a1, rv b26, iv (p14 + (1:Int32)), iv (1:Int32), iv p18] [(.ref b58_0), (.int (1:Int32)), (.ref b26)])) rfl rfl (hb hby d3_40)
  have sf66 := (c_K58.safe ((C26.keep K37).wr W42).lt (c_W42.safe (C26.keep K37).lt sf47))
  have O_W63 : Old Z n0 h63 := O_K58.wr W63 g45
  have Kp_W63 : Keep h0 h63 [] := Kp_K58.wr W63 (Or.inr z46)
  have c_W63 := CHr.wr W63 sf66 C_K58.1
  have C_W63 := C_K58.trans c_W63
  have N67 := Fr.snoc X63 N58 g45
  have f65 : Arv Z h63 b26 k26 (.object "java/lang/String") (3:Int32) [(.ref b37_0), (.ref b58_0), .null] .null := Arv.set Ar63 q63 S63 M63 H63 G63 rfl W63 1 rfl (Nat.le_of_ble_eq_true rfl)
  obtain ⟨_, Ar68, _, S68, M68, _, _⟩ := id f65
  obtain ⟨_, Ar69, _, S69, M69, _, _⟩ := id f65
  have f70 := ((f50.keep K58).wr W63)
  have f71 := ((f52.keep K58 nin0).other W63 (Or.inl ne51))
  have f72 := ((f53.keep K58 nin0).other W63 (Or.inl ne51))
  have f73 := ((f55.keep K58 nin0).other W63 ne54)
  obtain ⟨_, _, q75a, _, q75c⟩ := isOf hZ58 e63 f70
  obtain ⟨T75, _, _, X75, hSq75, hg75, Cq75, hQ75, st75⟩ := flH X63 (X63.virtualBackS hx (y := y14) (z := y14) hown58 (mo hZ58 hw 67 rfl) (mo hZ58 hw 68 rfl) (notFace_of_selects (args := #[]) (mo hZ58 hw 70 rfl)) (mo hZ58 hw 70 rfl) (mo hZ58 hw 69 rfl) (by decide) (backOfSH (s := s) (vm0 := T58.vm) (W := 2) (r14_2 l Z a0 hw [] a1 (p18 + (1:Int32)) a4 k6 c7 p9 k33 h63 n0 O_W63 f70 f71 f72 f73 H10 hc11 H12 H34 H35 hc74) hZ58 (ow hw 71 rfl) (ow hw 9 rfl) (by decide) (by decide) (own_EW hw) C_W63.1) q75a q75c (g := (mkF m 59 #[rv a1, rv b26, iv (p18 + (1:Int32)), iv (2:Int32), iv p18] [(.int (p18 + (1:Int32))), (.ref a1), (.int (2:Int32)), (.ref b26)])) rfl (by rw [hml]; rfl) (Steps.refl _) (argsL := [(.int (p18 + (1:Int32)))]) (rest := [(.int (2:Int32)), (.ref b26)]) (lenOf pd7 rfl) rfl wf (hb hby d3_59) (fun _ _ => ⟨rfl, e63, (by decide : 5 + 2 ≤ _), (by decide : 23 + 10 ≤ _)⟩))
  obtain ⟨Y75, hS75, hZ75, _⟩ := rebS (s := s) (vm0 := T58.vm) hS58 (by rw [e63]; exact (Nat.le_trans (Nat.le_refl _) (Keep.of_wr W63).1)) X75 hSq75 hg75 hZ58 hown58
  obtain ⟨b75_0, b75_1, k75_0, rfl, N75q, K75, f75_1, f75_2, f75_3, f75_4⟩ := hQ75
  have N75 := Fr.app N67 N75q
  have Kp_K75 : Keep h0 T75.heap [] := Kp_W63.trans K75 all0
  have c_K75 := Cq75
  have C_K75 := C_W63.trans c_K75
  have f76 := ((f59.wr W63).keep K75)
  have ne77 := Exa.ne f76 f75_1 (by decide)
  have f78 := (f65.keep K75 nin0)
  have ne79 := own_neAA f78 f75_4 (by decide)
  obtain ⟨cl80, Ar80, q80, S80, M80, H80, G80⟩ := id f78
  have hin80 : ¬ ((2:Int32) < 0 ∨ cl80.slots.size ≤ ((2:Int32)).toNatClampNeg) := inb_of S80 ⟨by decide, by decide⟩
  have f81 := f64
  obtain ⟨_, h80, X80, e80, W80, st80⟩ := stR Y75 hx hZ75 rfl Ar80 (j := (2:Int32)) hin80 rfl (Sto.ofV Ar80 q80 f81 (Ins.self f75_1)) (g := (mkF m 62 #[rv a1, rv b26, iv (p18 + (1:Int32)), iv (2:Int32), iv p18] [(.ref b75_0), (.int (2:Int32)), (.ref b26)])) rfl rfl (hb hby d3_62)
  have sf83 := (c_K75.safe ((((C26.keep K37).wr W42).keep K58).wr W63).lt (c_W63.safe (((C26.keep K37).wr W42).keep K58).lt sf66))
  have Kp_W80 : Keep h0 h80 [] := Kp_K75.wr W80 (Or.inr z46)
  have c_W80 := CHr.wr W80 sf83 C_K75.1
  have C_W80 := C_K75.trans c_W80
  have N84 := Fr.snoc X80 N75 g45
  have f82 : Arv Z h80 b26 k26 (.object "java/lang/String") (3:Int32) [(.ref b37_0), (.ref b58_0), (.ref b75_0)] .null := Arv.set Ar80 q80 S80 M80 H80 G80 rfl W80 2 rfl (Nat.le_of_ble_eq_true rfl)
  have f85 := (((((f37_1.wr W42).keep K58).wr W63).keep K75).wr W80)
  have f86 := (((((f37_3.other W42 (Or.inl (Ne.symm ne39))).keep K58 nin0).other W63 (Or.inl (Ne.symm ne39))).keep K75 nin0).other W80 (Or.inl (Ne.symm ne39)))
  have f87 := (((((f37_2.other W42 (Or.inl (Ne.symm ne39))).keep K58 nin0).other W63 (Or.inl (Ne.symm ne39))).keep K75 nin0).other W80 (Or.inl (Ne.symm ne39)))
  have f88 := (((((f37_4.other W42 (Ne.symm ne41)).keep K58 nin0).other W63 (Ne.symm ne41)).keep K75 nin0).other W80 (Ne.symm ne41))
  have f89 := (((f58_1.wr W63).keep K75).wr W80)
  have f90 := (((f58_3.other W63 (Or.inl (Ne.symm ne60))).keep K75 nin0).other W80 (Or.inl (Ne.symm ne60)))
  have f91 := (((f58_2.other W63 (Or.inl (Ne.symm ne60))).keep K75 nin0).other W80 (Or.inl (Ne.symm ne60)))
  have f92 := (((f58_4.other W63 (Ne.symm ne62)).keep K75 nin0).other W80 (Ne.symm ne62))
  have f93 := (f75_1.wr W80)
  have f94 := (f75_3.other W80 (Or.inl (Ne.symm ne77)))
  have f95 := (f75_2.other W80 (Or.inl (Ne.symm ne77)))
  have f96 := (f75_4.other W80 (Ne.symm ne79))
  refine finH (Q := r3_3Q Z a1 a4 k6 c7 p9 p14 p18 p22 k33 h0 n0) (rm := (rM 6 15 77 95)) (vm := T75.vm) Bd X80 hZ75 (own_EW hw) C_W80 hh e80 hS75 (Nat.le_trans (Nat.le_refl _) (Keep.of_wr W80).1) (some (.ref b26)) nofun ⟨b26, rfl, N84, Kp_W80, z46, own_rows (rs := [b37_0, b58_0, b75_0]) H97 (Nat.le_of_ble_eq_true rfl) f82 ⟨⟨b37_1, k37_0, f85, f87, f86, f88⟩, ⟨b58_1, k58_0, f89, f91, f90, f92⟩, ⟨b75_1, k75_0, f93, f95, f94, f96⟩, trivial⟩⟩ (by decide) (by decide) fun fs hr => ?_
  show St p e below s₁ m 0 #[rv a1, un, un, un, un] [] _
  refine aN X0 hx hby d3_0 rfl rfl ?_
  refine st25 _ ?_
  refine iC X25 hx hby d3_4 ?_
  refine XS.iadd X25.here hx rfl (hb hby d3_5) rfl ?_
  refine st26 _ ?_
  refine XS.astoreN X26.here hx rfl (hb hby d3_9) rfl rfl (l' := #[rv a1, rv b26, un, un, un]) rfl ?_
  refine iC X26 hx hby d3_10 ?_
  refine XS.istoreN X26.here hx rfl (hb hby d3_11) rfl (l' := #[rv a1, rv b26, iv (0:Int32), un, un]) rfl ?_
  refine iC X26 hx hby d3_12 ?_
  refine XS.istoreN X26.here hx rfl (hb hby d3_13) rfl (l' := #[rv a1, rv b26, iv (0:Int32), iv (0:Int32), un]) rfl ?_
  refine iN X26 hx hby d3_14 rfl ?_
  refine aN X26 hx hby d3_15 rfl rfl ?_
  refine X26.arraylength hx (by rw [e26]; exact Ar27.1) (State.isArrayOf_alike hZ.alike Ar27.2.1) (g := (mkF m 16 #[rv a1, rv b26, iv (0:Int32), iv (0:Int32), un] [(.ref b26), (.int (0:Int32))])) rfl rfl (hb hby d3_16) _ ?_
  rw [len_of S27 M27]
  refine iC X26 hx hby d3_17 ?_
  refine XS.isub X26.here hx rfl (hb hby d3_18) rfl ?_
  refine XS.icmpNo X26.here hx rfl (hb hby d3_19) rfl (tlt (by decide : (0:Int32) < (2:Int32))).2.1 ?_
  refine aN X26 hx hby d3_22 rfl rfl ?_
  refine XS.bipush X26.here hx rfl (hb hby d3_23) ?_
  refine iN X26 hx hby d3_25 rfl ?_
  refine st32.trans ?_
  show St p e below T32 m 29 #[rv a1, rv b26, iv (0:Int32), iv (0:Int32), un] [(.int (own_ix c7 (0:Int32)))] _
  rw [H15]
  refine XS.istore X32.here hx rfl (hb hby d3_29) rfl (l' := #[rv a1, rv b26, iv (0:Int32), iv (0:Int32), iv p14]) rfl ?_
  refine aN X32 hx hby d3_31 rfl rfl ?_
  refine iN X32 hx hby d3_32 rfl ?_
  refine aN X32 hx hby d3_33 rfl rfl ?_
  refine iN X32 hx hby d3_34 rfl ?_
  show St p e below T32 m 35 #[rv a1, rv b26, iv (0:Int32), iv (0:Int32), iv p14] [(.int (0:Int32)), (.ref a1), (.int (0:Int32)), (.ref b26)] _
  refine iL X32 hx hby d3_35 rfl ?_
  refine st37.trans ?_
  refine st42 _ ?_
  refine iL X42 hx hby d3_41 rfl ?_
  refine iC X42 hx hby d3_43 ?_
  refine XS.iadd X42.here hx rfl (hb hby d3_44) rfl ?_
  refine XS.istoreN X42.here hx rfl (hb hby d3_45) rfl (l' := #[rv a1, rv b26, iv (p14 + (1:Int32)), iv (0:Int32), iv p14]) rfl ?_
  refine XS.iinc X42.here hx rfl (hb hby d3_46) rfl (l' := #[rv a1, rv b26, iv (p14 + (1:Int32)), iv (1:Int32), iv p14]) rfl ?_
  refine XS.goto X42.here hx rfl (pc0 := 49) (pc' := 14) rfl (hb hby d3_49) (by decide) (by decide) ?_
  refine iN X42 hx hby d3_14 rfl ?_
  refine aN X42 hx hby d3_15 rfl rfl ?_
  refine X42.arraylength hx (by rw [e42]; exact Ar49.1) (State.isArrayOf_alike hZ37.alike Ar49.2.1) (g := (mkF m 16 #[rv a1, rv b26, iv (p14 + (1:Int32)), iv (1:Int32), iv p14] [(.ref b26), (.int (1:Int32))])) rfl rfl (hb hby d3_16) _ ?_
  rw [len_of S49 M49]
  refine iC X42 hx hby d3_17 ?_
  refine XS.isub X42.here hx rfl (hb hby d3_18) rfl ?_
  refine XS.icmpNo X42.here hx rfl (hb hby d3_19) rfl (tlt (by decide : (1:Int32) < (2:Int32))).2.1 ?_
  refine aN X42 hx hby d3_22 rfl rfl ?_
  refine XS.bipush X42.here hx rfl (hb hby d3_23) ?_
  refine iN X42 hx hby d3_25 rfl ?_
  refine st56.trans ?_
  show St p e below T56 m 29 #[rv a1, rv b26, iv (p14 + (1:Int32)), iv (1:Int32), iv p14] [(.int (own_ix c7 (p14 + (1:Int32))))] _
  rw [H19]
  refine XS.istore X56.here hx rfl (hb hby d3_29) rfl (l' := #[rv a1, rv b26, iv (p14 + (1:Int32)), iv (1:Int32), iv p18]) rfl ?_
  refine aN X56 hx hby d3_31 rfl rfl ?_
  refine iN X56 hx hby d3_32 rfl ?_
  refine aN X56 hx hby d3_33 rfl rfl ?_
  refine iN X56 hx hby d3_34 rfl ?_
  refine iL X56 hx hby d3_35 rfl ?_
  show St p e below T56 m 37 #[rv a1, rv b26, iv (p14 + (1:Int32)), iv (1:Int32), iv p18] [(.int p18), (.int (p14 + (1:Int32))), (.ref a1), (.int (1:Int32)), (.ref b26)] _
  refine st58.trans ?_
  refine st63 _ ?_
  refine iL X63 hx hby d3_41 rfl ?_
  refine iC X63 hx hby d3_43 ?_
  refine XS.iadd X63.here hx rfl (hb hby d3_44) rfl ?_
  refine XS.istoreN X63.here hx rfl (hb hby d3_45) rfl (l' := #[rv a1, rv b26, iv (p18 + (1:Int32)), iv (1:Int32), iv p18]) rfl ?_
  refine XS.iinc X63.here hx rfl (hb hby d3_46) rfl (l' := #[rv a1, rv b26, iv (p18 + (1:Int32)), iv (2:Int32), iv p18]) rfl ?_
  refine XS.goto X63.here hx rfl (pc0 := 49) (pc' := 14) rfl (hb hby d3_49) (by decide) (by decide) ?_
  refine iN X63 hx hby d3_14 rfl ?_
  refine aN X63 hx hby d3_15 rfl rfl ?_
  refine X63.arraylength hx (by rw [e63]; exact Ar68.1) (State.isArrayOf_alike hZ58.alike Ar68.2.1) (g := (mkF m 16 #[rv a1, rv b26, iv (p18 + (1:Int32)), iv (2:Int32), iv p18] [(.ref b26), (.int (2:Int32))])) rfl rfl (hb hby d3_16) _ ?_
  rw [len_of S68 M68]
  refine iC X63 hx hby d3_17 ?_
  refine XS.isub X63.here hx rfl (hb hby d3_18) rfl ?_
  refine XS.icmpYes X63.here hx rfl (pc0 := 19) (pc' := 52) rfl (hb hby d3_19) rfl (flt (by decide : ¬ ((2:Int32) < (2:Int32)))).2.1 (by decide) (by decide) ?_
  refine aN X63 hx hby d3_52 rfl rfl ?_
  refine aN X63 hx hby d3_53 rfl rfl ?_
  refine X63.arraylength hx (by rw [e63]; exact Ar69.1) (State.isArrayOf_alike hZ58.alike Ar69.2.1) (g := (mkF m 54 #[rv a1, rv b26, iv (p18 + (1:Int32)), iv (2:Int32), iv p18] [(.ref b26), (.ref b26)])) rfl rfl (hb hby d3_54) _ ?_
  rw [len_of S69 M69]
  refine iC X63 hx hby d3_55 ?_
  refine XS.isub X63.here hx rfl (hb hby d3_56) rfl ?_
  refine aN X63 hx hby d3_57 rfl rfl ?_
  refine iN X63 hx hby d3_58 rfl ?_
  refine st75.trans ?_
  refine st80 _ ?_
  refine aN X80 hx hby d3_63 rfl rfl ?_
  exact retA X80 hx Bd.returns rfl rfl (hb hby d3_64) hr
def r3_4Q (Z : State) (a1 a4 : Addr) (k6 : ClassId) (c7 : List Int32) (p9 p14 p18 p22 p26:Int32) (k37 : Value) (h0 : Heap) (n0 : Nat) : QT := fun v h L => own_fldQ Z c7 h0 n0 v h L
theorem r3_4 (l : Launch) (Z : State) (a0 : Array Value) (hw : HW a0 Z) (ws : List Jvm.Cond) (a1 a4 : Addr) (k6 : ClassId) (c7 : List Int32) (p9 p14 p18 p22 p26:Int32) (k37 : Value) (h0 : Heap) (n0 : Nat) (O0 : Old Z n0 h0) (H2 : xE1 Z h0 a1) (H3 : xF2 Z h0 a1 (.int (0:Int32))) (H5 : xF3 Z h0 a1 (.ref a4)) (H8 : Arv Z h0 a4 k6 .byte (own_tn c7) (own_tb c7) (.int (0:Int32))) (H10 : Sta Z Z.heap "java/lang/String" "COMPACT_STRINGS" "Z" (.int p9)) (hc11 : ¬ (p9 = (0:Int32))) (H12 : own_GT c7) (hc13 : own_po c7 (0:Int32)) (H15 : (own_ix c7 (0:Int32)) = p14) (hc16 : ¬ (p14 < (0:Int32))) (hc17 : own_po c7 (p14 + (1:Int32))) (H19 : (own_ix c7 (p14 + (1:Int32))) = p18) (hc20 : ¬ (p18 < (0:Int32))) (hc21 : own_po c7 (p18 + (1:Int32))) (H23 : (own_ix c7 (p18 + (1:Int32))) = p22) (hc24 : ¬ (p22 < (0:Int32))) (hc25 : own_po c7 (p22 + (1:Int32))) (H27 : (own_ix c7 (p22 + (1:Int32))) = p26) (hc28 : p26 < (0:Int32)) (H38 : Sta Z Z.heap "jdk/internal/util/Preconditions" "SIOOBE_FORMATTER" "Ljava/util/function/BiFunction;" k37) (H39 : k37.isRef = true) (hc40 : own_rng c7 (0:Int32) p14) (hc61 : own_rng c7 (p14 + (1:Int32)) p18) (hc78 : own_rng c7 (p18 + (1:Int32)) p22) (hc95 : own_rng c7 (p22 + (1:Int32)) (own_tn c7)) (H122 : own_sp c7 = [(own_sub c7 (0:Int32) p14), (own_sub c7 (p14 + (1:Int32)) p18), (own_sub c7 (p18 + (1:Int32)) p22), (own_sub c7 (p22 + (1:Int32)) (own_tn c7))]) :
    MFH l y3 cP22_2 5 (some (.array (.object "java/lang/String"))) ws (rM 6 15 77 95) Z #[(.ref a1)] h0 (r3_4Q Z a1 a4 k6 c7 p9 p14 p18 p22 p26 k37 h0 n0) := by
  refine own_inH (pq pn1) #[rv a1, un, un, un, un] (fun _ => by first | (simp [entryFrame, mkF, argsToLocals, Value.category]; done) | rfl) ?_
  intro p e s m below meth c s₁ Bd hx hby hml hown hnm hZ hh C0 e0 X0
  have N0 := Fr.nil n0
  obtain ⟨_, _, _, X29, hQ29, st29⟩ := cS X0 hx hZ hw hown (y := y4) 20 rfl 21 rfl 18 rfl 22 rfl (by decide) (W := 0) (r4_4 l Z a0 hw [] a1 a4 k6 c7 p9 p14 p18 p22 p26 h0 n0 O0 H2 H3 H5 H8 H10 hc11 H12 hc13 H15 hc16 hc17 H19 hc20 hc21 H23 hc24 hc25 H27 hc28) (by decide) (by decide) e0 (g := (mkF m 1 #[rv a1, un, un, un, un] [(.ref a1)])) rfl (by rw [hml]; rfl) (argsL := [(.ref a1)]) (rest := []) (lenOf pd6 rfl) rfl wf (hb hby d3_1) rfl (by decide) (by decide)
  obtain ⟨rfl, N29q, e29⟩ := hQ29
  have N29 := Fr.app N0 N29q
  obtain ⟨_, h30, k30, X30, e30, E30, A30, C30, Ov30, st30⟩ := newRE X29 hx hZ hown (ow hw 65 rfl) (ow hw 66 rfl) e29 (g := (mkF m 6 #[rv a1, un, un, un, un] [(.int (4:Int32))])) rfl (hb hby d3_6) rfl (by decide) (cap := 4) (by decide) (by decide) (by decide) (by decide) (ad := "[Ljava/lang/String;") (by decide)
  obtain ⟨b30, g30⟩ : ∃ z, z = h0.size := ⟨_, rfl⟩
  rw [← g30] at A30 C30 st30
  have O_E30 : Old Z n0 h30 := O0.ext E30
  have Kp_E30 : Keep h0 h30 [] := (Keep.refl h0 []).ext E30
  have c_E30 := CHr.ext E30 C0.1
  have C_E30 := C0.trans c_E30
  have V30 : Arv Z h30 b30 k30 (.object "java/lang/String") (4:Int32) [.null, .null, .null, .null] .null := (Arv.new A30 (by decide)).pad (pad_rep [] .null 4)
  obtain ⟨_, Ar31, _, S31, M31, _, _⟩ := id V30
  have f32 := (H2.ext E30)
  have f33 := (H3.ext E30)
  have f34 := (H5.ext E30)
  have f35 := (H8.ext E30)
  obtain ⟨T36, _, _, X36, hQ36, st36⟩ := cV X30 hx hZ hw hown (y := y6) 124 rfl 29 rfl 31 rfl 30 rfl 32 rfl 9 rfl (by decide) (W := 0) (own_idx l Z a0 hw [] a1 a4 k6 c7 (0:Int32) p9 h30 n0 O_E30 f32 H10 hc11 f33 f34 f35 H12 hc13) (by decide) (by decide) f32 e30 (g := (mkF m 26 #[rv a1, rv b30, iv (0:Int32), iv (0:Int32), un] [(.int (0:Int32)), (.int (44:Int32)), (.ref a1)])) rfl (by rw [hml]; rfl) (argsL := [(.int (44:Int32)), (.int (0:Int32))]) (rest := []) (lenOf pd14 rfl) rfl wf (hb hby d3_26) rfl (by decide) (by decide)
  obtain ⟨rfl, N36q, e36⟩ := hQ36
  have N36 := Fr.app N29 N36q
  obtain ⟨_, _, q41a, _, q41c⟩ := isOf hZ e36 f32
  obtain ⟨T41, _, _, X41, hSq41, hg41, Cq41, hQ41, st41⟩ := flH X36 (X36.virtualBackS hx (y := y15) (z := y15) hown (mo hZ hw 125 rfl) (mo hZ hw 73 rfl) (notFace_of_selects (args := #[]) (mo hZ hw 75 rfl)) (mo hZ hw 75 rfl) (mo hZ hw 74 rfl) (by decide) (backOfSH (s := s) (vm0 := s.vm) (W := 2) (own_substr l Z a0 hw [] a1 a4 k6 c7 (0:Int32) p14 p9 k37 h30 n0 O_E30 f32 f33 f34 f35 H10 hc11 H12 H38 H39 hc40) hZ (ow hw 76 rfl) (ow hw 9 rfl) (by decide) (by decide) (own_EW hw) C_E30.1) q41a q41c (g := (mkF m 37 #[rv a1, rv b30, iv (0:Int32), iv (0:Int32), iv p14] [(.int p14), (.int (0:Int32)), (.ref a1), (.int (0:Int32)), (.ref b30)])) rfl (by rw [hml]; rfl) (Steps.refl _) (argsL := [(.int (0:Int32)), (.int p14)]) (rest := [(.int (0:Int32)), (.ref b30)]) (lenOf pd5 rfl) rfl wf (hb hby d3_37) (fun _ _ => ⟨rfl, e36, (by decide : 1 + 2 ≤ _), (by decide : 4 + 10 ≤ _)⟩))
  obtain ⟨Y41, hS41, hZ41, hown41⟩ := rebS (s := s) (vm0 := s.vm) (State.WarmedH.since (State.WarmedH.refl s) 0) (by rw [e36]; exact (Nat.zero_le _)) X41 hSq41 hg41 hZ hown
  obtain ⟨b41_0, b41_1, k41_0, rfl, N41q, K41, f41_1, f41_2, f41_3, f41_4⟩ := hQ41
  have N41 := Fr.app N36 N41q
  have O_K41 : Old Z n0 T41.heap := O_E30.keep K41 all0
  have Kp_K41 : Keep h0 T41.heap [] := Kp_E30.trans K41 all0
  have c_K41 := Cq41
  have C_K41 := C_E30.trans c_K41
  have f42 := (C30.keep K41)
  have ne43 := Exa.ne f42 f41_1 (by decide)
  have f44 := (V30.keep K41 nin0)
  have ne45 := own_neAA f44 f41_4 (by decide)
  obtain ⟨cl46, Ar46, q46, S46, M46, H46, G46⟩ := id f44
  have hin46 : ¬ ((0:Int32) < 0 ∨ cl46.slots.size ≤ ((0:Int32)).toNatClampNeg) := inb_of S46 ⟨by decide, by decide⟩
  have f47 := Ov30
  obtain ⟨_, h46, X46, e46, W46, st46⟩ := stR Y41 hx hZ41 rfl Ar46 (j := (0:Int32)) hin46 rfl (Sto.ofV Ar46 q46 f47 (Ins.self f41_1)) (g := (mkF m 40 #[rv a1, rv b30, iv (0:Int32), iv (0:Int32), iv p14] [(.ref b41_0), (.int (0:Int32)), (.ref b30)])) rfl rfl (hb hby d3_40)
  have g49 : n0 ≤ b30 := Nat.le_trans (Nat.le_trans (Nat.le_of_eq O0.1.symm) O0.2.1) (Nat.le_of_eq g30.symm)
  have z50 : h0.size ≤ b30 := Nat.le_trans (Keep.refl h0 []).1 (Nat.le_of_eq g30.symm)
  have sf51 := (c_K41.safe C30.lt (Safe.ext E30 C0.1 (Safe.new (Nat.le_of_eq g30.symm))))
  have O_W46 : Old Z n0 h46 := O_K41.wr W46 g49
  have Kp_W46 : Keep h0 h46 [] := Kp_K41.wr W46 (Or.inr z50)
  have c_W46 := CHr.wr W46 sf51 C_K41.1
  have C_W46 := C_K41.trans c_W46
  have N52 := Fr.snoc X46 N41 g49
  have f48 : Arv Z h46 b30 k30 (.object "java/lang/String") (4:Int32) [(.ref b41_0), .null, .null, .null] .null := Arv.set Ar46 q46 S46 M46 H46 G46 rfl W46 0 rfl (Nat.le_of_ble_eq_true rfl)
  obtain ⟨_, Ar53, _, S53, M53, _, _⟩ := id f48
  have f54 := ((f32.keep K41).wr W46)
  have ne55 : a1 ≠ b30 := Nat.ne_of_lt (Nat.lt_of_lt_of_le H2.lt (Nat.le_of_eq g30.symm))
  have f56 := ((f33.keep K41 nin0).other W46 (Or.inl ne55))
  have f57 := ((f34.keep K41 nin0).other W46 (Or.inl ne55))
  have ne58 : a4 ≠ b30 := Nat.ne_of_lt (Nat.lt_of_lt_of_le H8.lt (Nat.le_of_eq g30.symm))
  have f59 := ((f35.keep K41 nin0).other W46 ne58)
  obtain ⟨T60, _, _, X60, hQ60, st60⟩ := cV X46 hx hZ41 hw hown41 (y := y6) 124 rfl 29 rfl 31 rfl 30 rfl 32 rfl 9 rfl (by decide) (W := 0) (own_idx l Z a0 hw [] a1 a4 k6 c7 (p14 + (1:Int32)) p9 h46 n0 O_W46 f54 H10 hc11 f56 f57 f59 H12 hc17) (by decide) (by decide) f54 e46 (g := (mkF m 26 #[rv a1, rv b30, iv (p14 + (1:Int32)), iv (1:Int32), iv p14] [(.int (p14 + (1:Int32))), (.int (44:Int32)), (.ref a1)])) rfl (by rw [hml]; rfl) (argsL := [(.int (44:Int32)), (.int (p14 + (1:Int32)))]) (rest := []) (lenOf pd14 rfl) rfl wf (hb hby d3_26) rfl (by decide) (by decide)
  obtain ⟨rfl, N60q, e60⟩ := hQ60
  have N60 := Fr.app N52 N60q
  obtain ⟨_, _, q62a, _, q62c⟩ := isOf hZ41 e60 f54
  obtain ⟨T62, _, _, X62, hSq62, hg62, Cq62, hQ62, st62⟩ := flH X60 (X60.virtualBackS hx (y := y15) (z := y15) hown41 (mo hZ41 hw 125 rfl) (mo hZ41 hw 73 rfl) (notFace_of_selects (args := #[]) (mo hZ41 hw 75 rfl)) (mo hZ41 hw 75 rfl) (mo hZ41 hw 74 rfl) (by decide) (backOfSH (s := s) (vm0 := T41.vm) (W := 2) (own_substr l Z a0 hw [] a1 a4 k6 c7 (p14 + (1:Int32)) p18 p9 k37 h46 n0 O_W46 f54 f56 f57 f59 H10 hc11 H12 H38 H39 hc61) hZ41 (ow hw 76 rfl) (ow hw 9 rfl) (by decide) (by decide) (own_EW hw) C_W46.1) q62a q62c (g := (mkF m 37 #[rv a1, rv b30, iv (p14 + (1:Int32)), iv (1:Int32), iv p18] [(.int p18), (.int (p14 + (1:Int32))), (.ref a1), (.int (1:Int32)), (.ref b30)])) rfl (by rw [hml]; rfl) (Steps.refl _) (argsL := [(.int (p14 + (1:Int32))), (.int p18)]) (rest := [(.int (1:Int32)), (.ref b30)]) (lenOf pd5 rfl) rfl wf (hb hby d3_37) (fun _ _ => ⟨rfl, e60, (by decide : 3 + 2 ≤ _), (by decide : 14 + 10 ≤ _)⟩))
  obtain ⟨Y62, hS62, hZ62, hown62⟩ := rebS (s := s) (vm0 := T41.vm) hS41 (by rw [e60]; exact (Nat.le_trans (Nat.le_refl _) (Keep.of_wr W46).1)) X62 hSq62 hg62 hZ41 hown41
  obtain ⟨b62_0, b62_1, k62_0, rfl, N62q, K62, f62_1, f62_2, f62_3, f62_4⟩ := hQ62
  have N62 := Fr.app N60 N62q
  have O_K62 : Old Z n0 T62.heap := O_W46.keep K62 all0
  have Kp_K62 : Keep h0 T62.heap [] := Kp_W46.trans K62 all0
  have c_K62 := Cq62
  have C_K62 := C_W46.trans c_K62
  have f63 := ((f42.wr W46).keep K62)
  have ne64 := Exa.ne f63 f62_1 (by decide)
  have f65 := (f48.keep K62 nin0)
  have ne66 := own_neAA f65 f62_4 (by decide)
  obtain ⟨cl67, Ar67, q67, S67, M67, H67, G67⟩ := id f65
  have hin67 : ¬ ((1:Int32) < 0 ∨ cl67.slots.size ≤ ((1:Int32)).toNatClampNeg) := inb_of S67 ⟨by decide, by decide⟩
  have f68 := f47
  obtain ⟨_, h67, X67, e67, W67, st67⟩ := stR Y62 hx hZ62 rfl Ar67 (j := (1:Int32)) hin67 rfl (Sto.ofV Ar67 q67 f68 (Ins.self f62_1)) (g := (mkF m 40 #[rv a1, rv b30, iv (p14 + (1:Int32)), iv (1:Int32), iv p18] [(.ref b62_0), (.int (1:Int32)), (.ref b30)])) rfl rfl (hb hby d3_40)
  have sf70 := (c_K62.safe ((C30.keep K41).wr W46).lt (c_W46.safe (C30.keep K41).lt sf51))
  have O_W67 : Old Z n0 h67 := O_K62.wr W67 g49
  have Kp_W67 : Keep h0 h67 [] := Kp_K62.wr W67 (Or.inr z50)
  have c_W67 := CHr.wr W67 sf70 C_K62.1
  have C_W67 := C_K62.trans c_W67
  have N71 := Fr.snoc X67 N62 g49
  have f69 : Arv Z h67 b30 k30 (.object "java/lang/String") (4:Int32) [(.ref b41_0), (.ref b62_0), .null, .null] .null := Arv.set Ar67 q67 S67 M67 H67 G67 rfl W67 1 rfl (Nat.le_of_ble_eq_true rfl)
  obtain ⟨_, Ar72, _, S72, M72, _, _⟩ := id f69
  have f73 := ((f54.keep K62).wr W67)
  have f74 := ((f56.keep K62 nin0).other W67 (Or.inl ne55))
  have f75 := ((f57.keep K62 nin0).other W67 (Or.inl ne55))
  have f76 := ((f59.keep K62 nin0).other W67 ne58)
  obtain ⟨T77, _, _, X77, hQ77, st77⟩ := cV X67 hx hZ62 hw hown62 (y := y6) 124 rfl 29 rfl 31 rfl 30 rfl 32 rfl 9 rfl (by decide) (W := 0) (own_idx l Z a0 hw [] a1 a4 k6 c7 (p18 + (1:Int32)) p9 h67 n0 O_W67 f73 H10 hc11 f74 f75 f76 H12 hc21) (by decide) (by decide) f73 e67 (g := (mkF m 26 #[rv a1, rv b30, iv (p18 + (1:Int32)), iv (2:Int32), iv p18] [(.int (p18 + (1:Int32))), (.int (44:Int32)), (.ref a1)])) rfl (by rw [hml]; rfl) (argsL := [(.int (44:Int32)), (.int (p18 + (1:Int32)))]) (rest := []) (lenOf pd14 rfl) rfl wf (hb hby d3_26) rfl (by decide) (by decide)
  obtain ⟨rfl, N77q, e77⟩ := hQ77
  have N77 := Fr.app N71 N77q
  obtain ⟨_, _, q79a, _, q79c⟩ := isOf hZ62 e77 f73
  obtain ⟨T79, _, _, X79, hSq79, hg79, Cq79, hQ79, st79⟩ := flH X77 (X77.virtualBackS hx (y := y15) (z := y15) hown62 (mo hZ62 hw 125 rfl) (mo hZ62 hw 73 rfl) (notFace_of_selects (args := #[]) (mo hZ62 hw 75 rfl)) (mo hZ62 hw 75 rfl) (mo hZ62 hw 74 rfl) (by decide) (backOfSH (s := s) (vm0 := T62.vm) (W := 2) (own_substr l Z a0 hw [] a1 a4 k6 c7 (p18 + (1:Int32)) p22 p9 k37 h67 n0 O_W67 f73 f74 f75 f76 H10 hc11 H12 H38 H39 hc78) hZ62 (ow hw 76 rfl) (ow hw 9 rfl) (by decide) (by decide) (own_EW hw) C_W67.1) q79a q79c (g := (mkF m 37 #[rv a1, rv b30, iv (p18 + (1:Int32)), iv (2:Int32), iv p22] [(.int p22), (.int (p18 + (1:Int32))), (.ref a1), (.int (2:Int32)), (.ref b30)])) rfl (by rw [hml]; rfl) (Steps.refl _) (argsL := [(.int (p18 + (1:Int32))), (.int p22)]) (rest := [(.int (2:Int32)), (.ref b30)]) (lenOf pd5 rfl) rfl wf (hb hby d3_37) (fun _ _ => ⟨rfl, e77, (by decide : 5 + 2 ≤ _), (by decide : 24 + 10 ≤ _)⟩))
  obtain ⟨Y79, hS79, hZ79, hown79⟩ := rebS (s := s) (vm0 := T62.vm) hS62 (by rw [e77]; exact (Nat.le_trans (Nat.le_refl _) (Keep.of_wr W67).1)) X79 hSq79 hg79 hZ62 hown62
  obtain ⟨b79_0, b79_1, k79_0, rfl, N79q, K79, f79_1, f79_2, f79_3, f79_4⟩ := hQ79
  have N79 := Fr.app N77 N79q
  have O_K79 : Old Z n0 T79.heap := O_W67.keep K79 all0
  have Kp_K79 : Keep h0 T79.heap [] := Kp_W67.trans K79 all0
  have c_K79 := Cq79
  have C_K79 := C_W67.trans c_K79
  have f80 := ((f63.wr W67).keep K79)
  have ne81 := Exa.ne f80 f79_1 (by decide)
  have f82 := (f69.keep K79 nin0)
  have ne83 := own_neAA f82 f79_4 (by decide)
  obtain ⟨cl84, Ar84, q84, S84, M84, H84, G84⟩ := id f82
  have hin84 : ¬ ((2:Int32) < 0 ∨ cl84.slots.size ≤ ((2:Int32)).toNatClampNeg) := inb_of S84 ⟨by decide, by decide⟩
  have f85 := f68
  obtain ⟨_, h84, X84, e84, W84, st84⟩ := stR Y79 hx hZ79 rfl Ar84 (j := (2:Int32)) hin84 rfl (Sto.ofV Ar84 q84 f85 (Ins.self f79_1)) (g := (mkF m 40 #[rv a1, rv b30, iv (p18 + (1:Int32)), iv (2:Int32), iv p22] [(.ref b79_0), (.int (2:Int32)), (.ref b30)])) rfl rfl (hb hby d3_40)
  have sf87 := (c_K79.safe ((((C30.keep K41).wr W46).keep K62).wr W67).lt (c_W67.safe (((C30.keep K41).wr W46).keep K62).lt sf70))
  have O_W84 : Old Z n0 h84 := O_K79.wr W84 g49
  have Kp_W84 : Keep h0 h84 [] := Kp_K79.wr W84 (Or.inr z50)
  have c_W84 := CHr.wr W84 sf87 C_K79.1
  have C_W84 := C_K79.trans c_W84
  have N88 := Fr.snoc X84 N79 g49
  have f86 : Arv Z h84 b30 k30 (.object "java/lang/String") (4:Int32) [(.ref b41_0), (.ref b62_0), (.ref b79_0), .null] .null := Arv.set Ar84 q84 S84 M84 H84 G84 rfl W84 2 rfl (Nat.le_of_ble_eq_true rfl)
  obtain ⟨_, Ar89, _, S89, M89, _, _⟩ := id f86
  obtain ⟨_, Ar90, _, S90, M90, _, _⟩ := id f86
  have f91 := ((f73.keep K79).wr W84)
  have f92 := ((f74.keep K79 nin0).other W84 (Or.inl ne55))
  have f93 := ((f75.keep K79 nin0).other W84 (Or.inl ne55))
  have f94 := ((f76.keep K79 nin0).other W84 ne58)
  obtain ⟨_, _, q96a, _, q96c⟩ := isOf hZ79 e84 f91
  obtain ⟨T96, _, _, X96, hSq96, hg96, Cq96, hQ96, st96⟩ := flH X84 (X84.virtualBackS hx (y := y14) (z := y14) hown79 (mo hZ79 hw 67 rfl) (mo hZ79 hw 68 rfl) (notFace_of_selects (args := #[]) (mo hZ79 hw 70 rfl)) (mo hZ79 hw 70 rfl) (mo hZ79 hw 69 rfl) (by decide) (backOfSH (s := s) (vm0 := T79.vm) (W := 2) (r14_2 l Z a0 hw [] a1 (p22 + (1:Int32)) a4 k6 c7 p9 k37 h84 n0 O_W84 f91 f92 f93 f94 H10 hc11 H12 H38 H39 hc95) hZ79 (ow hw 71 rfl) (ow hw 9 rfl) (by decide) (by decide) (own_EW hw) C_W84.1) q96a q96c (g := (mkF m 59 #[rv a1, rv b30, iv (p22 + (1:Int32)), iv (3:Int32), iv p22] [(.int (p22 + (1:Int32))), (.ref a1), (.int (3:Int32)), (.ref b30)])) rfl (by rw [hml]; rfl) (Steps.refl _) (argsL := [(.int (p22 + (1:Int32)))]) (rest := [(.int (3:Int32)), (.ref b30)]) (lenOf pd7 rfl) rfl wf (hb hby d3_59) (fun _ _ => ⟨rfl, e84, (by decide : 7 + 2 ≤ _), (by decide : 34 + 10 ≤ _)⟩))
  obtain ⟨Y96, hS96, hZ96, _⟩ := rebS (s := s) (vm0 := T79.vm) hS79 (by rw [e84]; exact (Nat.le_trans (Nat.le_refl _) (Keep.of_wr W84).1)) X96 hSq96 hg96 hZ79 hown79
  obtain ⟨b96_0, b96_1, k96_0, rfl, N96q, K96, f96_1, f96_2, f96_3, f96_4⟩ := hQ96
  have N96 := Fr.app N88 N96q
  have Kp_K96 : Keep h0 T96.heap [] := Kp_W84.trans K96 all0
  have c_K96 := Cq96
  have C_K96 := C_W84.trans c_K96
  have f97 := ((f80.wr W84).keep K96)
  have ne98 := Exa.ne f97 f96_1 (by decide)
  have f99 := (f86.keep K96 nin0)
  have ne100 := own_neAA f99 f96_4 (by decide)
  obtain ⟨cl101, Ar101, q101, S101, M101, H101, G101⟩ := id f99
  have hin101 : ¬ ((3:Int32) < 0 ∨ cl101.slots.size ≤ ((3:Int32)).toNatClampNeg) := inb_of S101 ⟨by decide, by decide⟩
  have f102 := f85
  obtain ⟨_, h101, X101, e101, W101, st101⟩ := stR Y96 hx hZ96 rfl Ar101 (j := (3:Int32)) hin101 rfl (Sto.ofV Ar101 q101 f102 (Ins.self f96_1)) (g := (mkF m 62 #[rv a1, rv b30, iv (p22 + (1:Int32)), iv (3:Int32), iv p22] [(.ref b96_0), (.int (3:Int32)), (.ref b30)])) rfl rfl (hb hby d3_62)
  have sf104 := (c_K96.safe ((((((C30.keep K41).wr W46).keep K62).wr W67).keep K79).wr W84).lt (c_W84.safe (((((C30.keep K41).wr W46).keep K62).wr W67).keep K79).lt sf87))
  have Kp_W101 : Keep h0 h101 [] := Kp_K96.wr W101 (Or.inr z50)
  have c_W101 := CHr.wr W101 sf104 C_K96.1
  have C_W101 := C_K96.trans c_W101
  have N105 := Fr.snoc X101 N96 g49
  have f103 : Arv Z h101 b30 k30 (.object "java/lang/String") (4:Int32) [(.ref b41_0), (.ref b62_0), (.ref b79_0), (.ref b96_0)] .null := Arv.set Ar101 q101 S101 M101 H101 G101 rfl W101 3 rfl (Nat.le_of_ble_eq_true rfl)
  have f106 := (((((((f41_1.wr W46).keep K62).wr W67).keep K79).wr W84).keep K96).wr W101)
  have f107 := (((((((f41_3.other W46 (Or.inl (Ne.symm ne43))).keep K62 nin0).other W67 (Or.inl (Ne.symm ne43))).keep K79 nin0).other W84 (Or.inl (Ne.symm ne43))).keep K96 nin0).other W101 (Or.inl (Ne.symm ne43)))
  have f108 := (((((((f41_2.other W46 (Or.inl (Ne.symm ne43))).keep K62 nin0).other W67 (Or.inl (Ne.symm ne43))).keep K79 nin0).other W84 (Or.inl (Ne.symm ne43))).keep K96 nin0).other W101 (Or.inl (Ne.symm ne43)))
  have f109 := (((((((f41_4.other W46 (Ne.symm ne45)).keep K62 nin0).other W67 (Ne.symm ne45)).keep K79 nin0).other W84 (Ne.symm ne45)).keep K96 nin0).other W101 (Ne.symm ne45))
  have f110 := (((((f62_1.wr W67).keep K79).wr W84).keep K96).wr W101)
  have f111 := (((((f62_3.other W67 (Or.inl (Ne.symm ne64))).keep K79 nin0).other W84 (Or.inl (Ne.symm ne64))).keep K96 nin0).other W101 (Or.inl (Ne.symm ne64)))
  have f112 := (((((f62_2.other W67 (Or.inl (Ne.symm ne64))).keep K79 nin0).other W84 (Or.inl (Ne.symm ne64))).keep K96 nin0).other W101 (Or.inl (Ne.symm ne64)))
  have f113 := (((((f62_4.other W67 (Ne.symm ne66)).keep K79 nin0).other W84 (Ne.symm ne66)).keep K96 nin0).other W101 (Ne.symm ne66))
  have f114 := (((f79_1.wr W84).keep K96).wr W101)
  have f115 := (((f79_3.other W84 (Or.inl (Ne.symm ne81))).keep K96 nin0).other W101 (Or.inl (Ne.symm ne81)))
  have f116 := (((f79_2.other W84 (Or.inl (Ne.symm ne81))).keep K96 nin0).other W101 (Or.inl (Ne.symm ne81)))
  have f117 := (((f79_4.other W84 (Ne.symm ne83)).keep K96 nin0).other W101 (Ne.symm ne83))
  have f118 := (f96_1.wr W101)
  have f119 := (f96_3.other W101 (Or.inl (Ne.symm ne98)))
  have f120 := (f96_2.other W101 (Or.inl (Ne.symm ne98)))
  have f121 := (f96_4.other W101 (Ne.symm ne100))
  refine finH (Q := r3_4Q Z a1 a4 k6 c7 p9 p14 p18 p22 p26 k37 h0 n0) (rm := (rM 6 15 77 95)) (vm := T96.vm) Bd X101 hZ96 (own_EW hw) C_W101 hh e101 hS96 (Nat.le_trans (Nat.le_refl _) (Keep.of_wr W101).1) (some (.ref b30)) nofun ⟨b30, rfl, N105, Kp_W101, z50, own_rows (rs := [b41_0, b62_0, b79_0, b96_0]) H122 (Nat.le_of_ble_eq_true rfl) f103 ⟨⟨b41_1, k41_0, f106, f108, f107, f109⟩, ⟨b62_1, k62_0, f110, f112, f111, f113⟩, ⟨b79_1, k79_0, f114, f116, f115, f117⟩, ⟨b96_1, k96_0, f118, f120, f119, f121⟩, trivial⟩⟩ (by decide) (by decide) fun fs hr => ?_
  show St p e below s₁ m 0 #[rv a1, un, un, un, un] [] _
  refine aN X0 hx hby d3_0 rfl rfl ?_
  refine st29 _ ?_
  refine iC X29 hx hby d3_4 ?_
  refine XS.iadd X29.here hx rfl (hb hby d3_5) rfl ?_
  refine st30 _ ?_
  refine XS.astoreN X30.here hx rfl (hb hby d3_9) rfl rfl (l' := #[rv a1, rv b30, un, un, un]) rfl ?_
  refine iC X30 hx hby d3_10 ?_
  refine XS.istoreN X30.here hx rfl (hb hby d3_11) rfl (l' := #[rv a1, rv b30, iv (0:Int32), un, un]) rfl ?_
  refine iC X30 hx hby d3_12 ?_
  refine XS.istoreN X30.here hx rfl (hb hby d3_13) rfl (l' := #[rv a1, rv b30, iv (0:Int32), iv (0:Int32), un]) rfl ?_
  refine iN X30 hx hby d3_14 rfl ?_
  refine aN X30 hx hby d3_15 rfl rfl ?_
  refine X30.arraylength hx (by rw [e30]; exact Ar31.1) (State.isArrayOf_alike hZ.alike Ar31.2.1) (g := (mkF m 16 #[rv a1, rv b30, iv (0:Int32), iv (0:Int32), un] [(.ref b30), (.int (0:Int32))])) rfl rfl (hb hby d3_16) _ ?_
  rw [len_of S31 M31]
  refine iC X30 hx hby d3_17 ?_
  refine XS.isub X30.here hx rfl (hb hby d3_18) rfl ?_
  refine XS.icmpNo X30.here hx rfl (hb hby d3_19) rfl (tlt (by decide : (0:Int32) < (3:Int32))).2.1 ?_
  refine aN X30 hx hby d3_22 rfl rfl ?_
  refine XS.bipush X30.here hx rfl (hb hby d3_23) ?_
  refine iN X30 hx hby d3_25 rfl ?_
  refine st36.trans ?_
  show St p e below T36 m 29 #[rv a1, rv b30, iv (0:Int32), iv (0:Int32), un] [(.int (own_ix c7 (0:Int32)))] _
  rw [H15]
  refine XS.istore X36.here hx rfl (hb hby d3_29) rfl (l' := #[rv a1, rv b30, iv (0:Int32), iv (0:Int32), iv p14]) rfl ?_
  refine aN X36 hx hby d3_31 rfl rfl ?_
  refine iN X36 hx hby d3_32 rfl ?_
  refine aN X36 hx hby d3_33 rfl rfl ?_
  refine iN X36 hx hby d3_34 rfl ?_
  show St p e below T36 m 35 #[rv a1, rv b30, iv (0:Int32), iv (0:Int32), iv p14] [(.int (0:Int32)), (.ref a1), (.int (0:Int32)), (.ref b30)] _
  refine iL X36 hx hby d3_35 rfl ?_
  refine st41.trans ?_
  refine st46 _ ?_
  refine iL X46 hx hby d3_41 rfl ?_
  refine iC X46 hx hby d3_43 ?_
  refine XS.iadd X46.here hx rfl (hb hby d3_44) rfl ?_
  refine XS.istoreN X46.here hx rfl (hb hby d3_45) rfl (l' := #[rv a1, rv b30, iv (p14 + (1:Int32)), iv (0:Int32), iv p14]) rfl ?_
  refine XS.iinc X46.here hx rfl (hb hby d3_46) rfl (l' := #[rv a1, rv b30, iv (p14 + (1:Int32)), iv (1:Int32), iv p14]) rfl ?_
  refine XS.goto X46.here hx rfl (pc0 := 49) (pc' := 14) rfl (hb hby d3_49) (by decide) (by decide) ?_
  refine iN X46 hx hby d3_14 rfl ?_
  refine aN X46 hx hby d3_15 rfl rfl ?_
  refine X46.arraylength hx (by rw [e46]; exact Ar53.1) (State.isArrayOf_alike hZ41.alike Ar53.2.1) (g := (mkF m 16 #[rv a1, rv b30, iv (p14 + (1:Int32)), iv (1:Int32), iv p14] [(.ref b30), (.int (1:Int32))])) rfl rfl (hb hby d3_16) _ ?_
  rw [len_of S53 M53]
  refine iC X46 hx hby d3_17 ?_
  refine XS.isub X46.here hx rfl (hb hby d3_18) rfl ?_
  refine XS.icmpNo X46.here hx rfl (hb hby d3_19) rfl (tlt (by decide : (1:Int32) < (3:Int32))).2.1 ?_
  refine aN X46 hx hby d3_22 rfl rfl ?_
  refine XS.bipush X46.here hx rfl (hb hby d3_23) ?_
  refine iN X46 hx hby d3_25 rfl ?_
  refine st60.trans ?_
  show St p e below T60 m 29 #[rv a1, rv b30, iv (p14 + (1:Int32)), iv (1:Int32), iv p14] [(.int (own_ix c7 (p14 + (1:Int32))))] _
  rw [H19]
  refine XS.istore X60.here hx rfl (hb hby d3_29) rfl (l' := #[rv a1, rv b30, iv (p14 + (1:Int32)), iv (1:Int32), iv p18]) rfl ?_
  refine aN X60 hx hby d3_31 rfl rfl ?_
  refine iN X60 hx hby d3_32 rfl ?_
  refine aN X60 hx hby d3_33 rfl rfl ?_
  refine iN X60 hx hby d3_34 rfl ?_
  refine iL X60 hx hby d3_35 rfl ?_
  show St p e below T60 m 37 #[rv a1, rv b30, iv (p14 + (1:Int32)), iv (1:Int32), iv p18] [(.int p18), (.int (p14 + (1:Int32))), (.ref a1), (.int (1:Int32)), (.ref b30)] _
  refine st62.trans ?_
  refine st67 _ ?_
  refine iL X67 hx hby d3_41 rfl ?_
  refine iC X67 hx hby d3_43 ?_
  refine XS.iadd X67.here hx rfl (hb hby d3_44) rfl ?_
  refine XS.istoreN X67.here hx rfl (hb hby d3_45) rfl (l' := #[rv a1, rv b30, iv (p18 + (1:Int32)), iv (1:Int32), iv p18]) rfl ?_
  refine XS.iinc X67.here hx rfl (hb hby d3_46) rfl (l' := #[rv a1, rv b30, iv (p18 + (1:Int32)), iv (2:Int32), iv p18]) rfl ?_
  refine XS.goto X67.here hx rfl (pc0 := 49) (pc' := 14) rfl (hb hby d3_49) (by decide) (by decide) ?_
  refine iN X67 hx hby d3_14 rfl ?_
  refine aN X67 hx hby d3_15 rfl rfl ?_
  refine X67.arraylength hx (by rw [e67]; exact Ar72.1) (State.isArrayOf_alike hZ62.alike Ar72.2.1) (g := (mkF m 16 #[rv a1, rv b30, iv (p18 + (1:Int32)), iv (2:Int32), iv p18] [(.ref b30), (.int (2:Int32))])) rfl rfl (hb hby d3_16) _ ?_
  rw [len_of S72 M72]
  refine iC X67 hx hby d3_17 ?_
  refine XS.isub X67.here hx rfl (hb hby d3_18) rfl ?_
  refine XS.icmpNo X67.here hx rfl (hb hby d3_19) rfl (tlt (by decide : (2:Int32) < (3:Int32))).2.1 ?_
  refine aN X67 hx hby d3_22 rfl rfl ?_
  refine XS.bipush X67.here hx rfl (hb hby d3_23) ?_
  refine iN X67 hx hby d3_25 rfl ?_
  refine st77.trans ?_
  show St p e below T77 m 29 #[rv a1, rv b30, iv (p18 + (1:Int32)), iv (2:Int32), iv p18] [(.int (own_ix c7 (p18 + (1:Int32))))] _
  rw [H23]
  refine XS.istore X77.here hx rfl (hb hby d3_29) rfl (l' := #[rv a1, rv b30, iv (p18 + (1:Int32)), iv (2:Int32), iv p22]) rfl ?_
  refine aN X77 hx hby d3_31 rfl rfl ?_
  refine iN X77 hx hby d3_32 rfl ?_
  refine aN X77 hx hby d3_33 rfl rfl ?_
  refine iN X77 hx hby d3_34 rfl ?_
  refine iL X77 hx hby d3_35 rfl ?_
  refine st79.trans ?_
  show St p e below T79 m 40 #[rv a1, rv b30, iv (p18 + (1:Int32)), iv (2:Int32), iv p22] [(.ref b79_0), (.int (2:Int32)), (.ref b30)] _
  refine st84 _ ?_
  refine iL X84 hx hby d3_41 rfl ?_
  refine iC X84 hx hby d3_43 ?_
  refine XS.iadd X84.here hx rfl (hb hby d3_44) rfl ?_
  refine XS.istoreN X84.here hx rfl (hb hby d3_45) rfl (l' := #[rv a1, rv b30, iv (p22 + (1:Int32)), iv (2:Int32), iv p22]) rfl ?_
  refine XS.iinc X84.here hx rfl (hb hby d3_46) rfl (l' := #[rv a1, rv b30, iv (p22 + (1:Int32)), iv (3:Int32), iv p22]) rfl ?_
  refine XS.goto X84.here hx rfl (pc0 := 49) (pc' := 14) rfl (hb hby d3_49) (by decide) (by decide) ?_
  refine iN X84 hx hby d3_14 rfl ?_
  refine aN X84 hx hby d3_15 rfl rfl ?_
  refine X84.arraylength hx (by rw [e84]; exact Ar89.1) (State.isArrayOf_alike hZ79.alike Ar89.2.1) (g := (mkF m 16 #[rv a1, rv b30, iv (p22 + (1:Int32)), iv (3:Int32), iv p22] [(.ref b30), (.int (3:Int32))])) rfl rfl (hb hby d3_16) _ ?_
  rw [len_of S89 M89]
  refine iC X84 hx hby d3_17 ?_
  refine XS.isub X84.here hx rfl (hb hby d3_18) rfl ?_
  refine XS.icmpYes X84.here hx rfl (pc0 := 19) (pc' := 52) rfl (hb hby d3_19) rfl (flt (by decide : ¬ ((3:Int32) < (3:Int32)))).2.1 (by decide) (by decide) ?_
  refine aN X84 hx hby d3_52 rfl rfl ?_
  refine aN X84 hx hby d3_53 rfl rfl ?_
  refine X84.arraylength hx (by rw [e84]; exact Ar90.1) (State.isArrayOf_alike hZ79.alike Ar90.2.1) (g := (mkF m 54 #[rv a1, rv b30, iv (p22 + (1:Int32)), iv (3:Int32), iv p22] [(.ref b30), (.ref b30)])) rfl rfl (hb hby d3_54) _ ?_
  rw [len_of S90 M90]
  refine iC X84 hx hby d3_55 ?_
  refine XS.isub X84.here hx rfl (hb hby d3_56) rfl ?_
  refine aN X84 hx hby d3_57 rfl rfl ?_
  refine iN X84 hx hby d3_58 rfl ?_
  refine st96.trans ?_
  refine st101 _ ?_
  refine aN X101 hx hby d3_63 rfl rfl ?_
  exact retA X101 hx Bd.returns rfl rfl (hb hby d3_64) hr
def r3_5Q (Z : State) (a1 a4 : Addr) (k6 : ClassId) (c7 : List Int32) (p9 p14 p18 p22 p26 p30:Int32) (k41 : Value) (h0 : Heap) (n0 : Nat) : QT := fun v h L => own_fldQ Z c7 h0 n0 v h L
theorem r3_5 (l : Launch) (Z : State) (a0 : Array Value) (hw : HW a0 Z) (ws : List Jvm.Cond) (a1 a4 : Addr) (k6 : ClassId) (c7 : List Int32) (p9 p14 p18 p22 p26 p30:Int32) (k41 : Value) (h0 : Heap) (n0 : Nat) (O0 : Old Z n0 h0) (H2 : xE1 Z h0 a1) (H3 : xF2 Z h0 a1 (.int (0:Int32))) (H5 : xF3 Z h0 a1 (.ref a4)) (H8 : Arv Z h0 a4 k6 .byte (own_tn c7) (own_tb c7) (.int (0:Int32))) (H10 : Sta Z Z.heap "java/lang/String" "COMPACT_STRINGS" "Z" (.int p9)) (hc11 : ¬ (p9 = (0:Int32))) (H12 : own_GT c7) (hc13 : own_po c7 (0:Int32)) (H15 : (own_ix c7 (0:Int32)) = p14) (hc16 : ¬ (p14 < (0:Int32))) (hc17 : own_po c7 (p14 + (1:Int32))) (H19 : (own_ix c7 (p14 + (1:Int32))) = p18) (hc20 : ¬ (p18 < (0:Int32))) (hc21 : own_po c7 (p18 + (1:Int32))) (H23 : (own_ix c7 (p18 + (1:Int32))) = p22) (hc24 : ¬ (p22 < (0:Int32))) (hc25 : own_po c7 (p22 + (1:Int32))) (H27 : (own_ix c7 (p22 + (1:Int32))) = p26) (hc28 : ¬ (p26 < (0:Int32))) (hc29 : own_po c7 (p26 + (1:Int32))) (H31 : (own_ix c7 (p26 + (1:Int32))) = p30) (hc32 : p30 < (0:Int32)) (H42 : Sta Z Z.heap "jdk/internal/util/Preconditions" "SIOOBE_FORMATTER" "Ljava/util/function/BiFunction;" k41) (H43 : k41.isRef = true) (hc44 : own_rng c7 (0:Int32) p14) (hc65 : own_rng c7 (p14 + (1:Int32)) p18) (hc82 : own_rng c7 (p18 + (1:Int32)) p22) (hc99 : own_rng c7 (p22 + (1:Int32)) p26) (hc116 : own_rng c7 (p26 + (1:Int32)) (own_tn c7)) (H147 : own_sp c7 = [(own_sub c7 (0:Int32) p14), (own_sub c7 (p14 + (1:Int32)) p18), (own_sub c7 (p18 + (1:Int32)) p22), (own_sub c7 (p22 + (1:Int32)) p26), (own_sub c7 (p26 + (1:Int32)) (own_tn c7))]) :
    MFH l y3 cP22_2 5 (some (.array (.object "java/lang/String"))) ws (rM 6 15 77 95) Z #[(.ref a1)] h0 (r3_5Q Z a1 a4 k6 c7 p9 p14 p18 p22 p26 p30 k41 h0 n0) := by
  refine own_inH (pq pn1) #[rv a1, un, un, un, un] (fun _ => by first | (simp [entryFrame, mkF, argsToLocals, Value.category]; done) | rfl) ?_
  intro p e s m below meth c s₁ Bd hx hby hml hown hnm hZ hh C0 e0 X0
  have N0 := Fr.nil n0
  obtain ⟨_, _, _, X33, hQ33, st33⟩ := cS X0 hx hZ hw hown (y := y4) 20 rfl 21 rfl 18 rfl 22 rfl (by decide) (W := 0) (r4_5 l Z a0 hw [] a1 a4 k6 c7 p9 p14 p18 p22 p26 p30 h0 n0 O0 H2 H3 H5 H8 H10 hc11 H12 hc13 H15 hc16 hc17 H19 hc20 hc21 H23 hc24 hc25 H27 hc28 hc29 H31 hc32) (by decide) (by decide) e0 (g := (mkF m 1 #[rv a1, un, un, un, un] [(.ref a1)])) rfl (by rw [hml]; rfl) (argsL := [(.ref a1)]) (rest := []) (lenOf pd6 rfl) rfl wf (hb hby d3_1) rfl (by decide) (by decide)
  obtain ⟨rfl, N33q, e33⟩ := hQ33
  have N33 := Fr.app N0 N33q
  obtain ⟨_, h34, k34, X34, e34, E34, A34, C34, Ov34, st34⟩ := newRE X33 hx hZ hown (ow hw 65 rfl) (ow hw 66 rfl) e33 (g := (mkF m 6 #[rv a1, un, un, un, un] [(.int (5:Int32))])) rfl (hb hby d3_6) rfl (by decide) (cap := 5) (by decide) (by decide) (by decide) (by decide) (ad := "[Ljava/lang/String;") (by decide)
  obtain ⟨b34, g34⟩ : ∃ z, z = h0.size := ⟨_, rfl⟩
  rw [← g34] at A34 C34 st34
  have O_E34 : Old Z n0 h34 := O0.ext E34
  have Kp_E34 : Keep h0 h34 [] := (Keep.refl h0 []).ext E34
  have c_E34 := CHr.ext E34 C0.1
  have C_E34 := C0.trans c_E34
  have V34 : Arv Z h34 b34 k34 (.object "java/lang/String") (5:Int32) [.null, .null, .null, .null, .null] .null := (Arv.new A34 (by decide)).pad (pad_rep [] .null 5)
  obtain ⟨_, Ar35, _, S35, M35, _, _⟩ := id V34
  have f36 := (H2.ext E34)
  have f37 := (H3.ext E34)
  have f38 := (H5.ext E34)
  have f39 := (H8.ext E34)
  obtain ⟨T40, _, _, X40, hQ40, st40⟩ := cV X34 hx hZ hw hown (y := y6) 124 rfl 29 rfl 31 rfl 30 rfl 32 rfl 9 rfl (by decide) (W := 0) (own_idx l Z a0 hw [] a1 a4 k6 c7 (0:Int32) p9 h34 n0 O_E34 f36 H10 hc11 f37 f38 f39 H12 hc13) (by decide) (by decide) f36 e34 (g := (mkF m 26 #[rv a1, rv b34, iv (0:Int32), iv (0:Int32), un] [(.int (0:Int32)), (.int (44:Int32)), (.ref a1)])) rfl (by rw [hml]; rfl) (argsL := [(.int (44:Int32)), (.int (0:Int32))]) (rest := []) (lenOf pd14 rfl) rfl wf (hb hby d3_26) rfl (by decide) (by decide)
  obtain ⟨rfl, N40q, e40⟩ := hQ40
  have N40 := Fr.app N33 N40q
  obtain ⟨_, _, q45a, _, q45c⟩ := isOf hZ e40 f36
  obtain ⟨T45, _, _, X45, hSq45, hg45, Cq45, hQ45, st45⟩ := flH X40 (X40.virtualBackS hx (y := y15) (z := y15) hown (mo hZ hw 125 rfl) (mo hZ hw 73 rfl) (notFace_of_selects (args := #[]) (mo hZ hw 75 rfl)) (mo hZ hw 75 rfl) (mo hZ hw 74 rfl) (by decide) (backOfSH (s := s) (vm0 := s.vm) (W := 2) (own_substr l Z a0 hw [] a1 a4 k6 c7 (0:Int32) p14 p9 k41 h34 n0 O_E34 f36 f37 f38 f39 H10 hc11 H12 H42 H43 hc44) hZ (ow hw 76 rfl) (ow hw 9 rfl) (by decide) (by decide) (own_EW hw) C_E34.1) q45a q45c (g := (mkF m 37 #[rv a1, rv b34, iv (0:Int32), iv (0:Int32), iv p14] [(.int p14), (.int (0:Int32)), (.ref a1), (.int (0:Int32)), (.ref b34)])) rfl (by rw [hml]; rfl) (Steps.refl _) (argsL := [(.int (0:Int32)), (.int p14)]) (rest := [(.int (0:Int32)), (.ref b34)]) (lenOf pd5 rfl) rfl wf (hb hby d3_37) (fun _ _ => ⟨rfl, e40, (by decide : 1 + 2 ≤ _), (by decide : 5 + 10 ≤ _)⟩))
  obtain ⟨Y45, hS45, hZ45, hown45⟩ := rebS (s := s) (vm0 := s.vm) (State.WarmedH.since (State.WarmedH.refl s) 0) (by rw [e40]; exact (Nat.zero_le _)) X45 hSq45 hg45 hZ hown
  obtain ⟨b45_0, b45_1, k45_0, rfl, N45q, K45, f45_1, f45_2, f45_3, f45_4⟩ := hQ45
  have N45 := Fr.app N40 N45q
  have O_K45 : Old Z n0 T45.heap := O_E34.keep K45 all0
  have Kp_K45 : Keep h0 T45.heap [] := Kp_E34.trans K45 all0
  have c_K45 := Cq45
  have C_K45 := C_E34.trans c_K45
  have f46 := (C34.keep K45)
  have ne47 := Exa.ne f46 f45_1 (by decide)
  have f48 := (V34.keep K45 nin0)
  have ne49 := own_neAA f48 f45_4 (by decide)
  obtain ⟨cl50, Ar50, q50, S50, M50, H50, G50⟩ := id f48
  have hin50 : ¬ ((0:Int32) < 0 ∨ cl50.slots.size ≤ ((0:Int32)).toNatClampNeg) := inb_of S50 ⟨by decide, by decide⟩
  have f51 := Ov34
  obtain ⟨_, h50, X50, e50, W50, st50⟩ := stR Y45 hx hZ45 rfl Ar50 (j := (0:Int32)) hin50 rfl (Sto.ofV Ar50 q50 f51 (Ins.self f45_1)) (g := (mkF m 40 #[rv a1, rv b34, iv (0:Int32), iv (0:Int32), iv p14] [(.ref b45_0), (.int (0:Int32)), (.ref b34)])) rfl rfl (hb hby d3_40)
  have g53 : n0 ≤ b34 := Nat.le_trans (Nat.le_trans (Nat.le_of_eq O0.1.symm) O0.2.1) (Nat.le_of_eq g34.symm)
  have z54 : h0.size ≤ b34 := Nat.le_trans (Keep.refl h0 []).1 (Nat.le_of_eq g34.symm)
  have sf55 := (c_K45.safe C34.lt (Safe.ext E34 C0.1 (Safe.new (Nat.le_of_eq g34.symm))))
  have O_W50 : Old Z n0 h50 := O_K45.wr W50 g53
  have Kp_W50 : Keep h0 h50 [] := Kp_K45.wr W50 (Or.inr z54)
  have c_W50 := CHr.wr W50 sf55 C_K45.1
  have C_W50 := C_K45.trans c_W50
  have N56 := Fr.snoc X50 N45 g53
  have f52 : Arv Z h50 b34 k34 (.object "java/lang/String") (5:Int32) [(.ref b45_0), .null, .null, .null, .null] .null := Arv.set Ar50 q50 S50 M50 H50 G50 rfl W50 0 rfl (Nat.le_of_ble_eq_true rfl)
  obtain ⟨_, Ar57, _, S57, M57, _, _⟩ := id f52
  have f58 := ((f36.keep K45).wr W50)
  have ne59 : a1 ≠ b34 := Nat.ne_of_lt (Nat.lt_of_lt_of_le H2.lt (Nat.le_of_eq g34.symm))
  have f60 := ((f37.keep K45 nin0).other W50 (Or.inl ne59))
  have f61 := ((f38.keep K45 nin0).other W50 (Or.inl ne59))
  have ne62 : a4 ≠ b34 := Nat.ne_of_lt (Nat.lt_of_lt_of_le H8.lt (Nat.le_of_eq g34.symm))
  have f63 := ((f39.keep K45 nin0).other W50 ne62)
  obtain ⟨T64, _, _, X64, hQ64, st64⟩ := cV X50 hx hZ45 hw hown45 (y := y6) 124 rfl 29 rfl 31 rfl 30 rfl 32 rfl 9 rfl (by decide) (W := 0) (own_idx l Z a0 hw [] a1 a4 k6 c7 (p14 + (1:Int32)) p9 h50 n0 O_W50 f58 H10 hc11 f60 f61 f63 H12 hc17) (by decide) (by decide) f58 e50 (g := (mkF m 26 #[rv a1, rv b34, iv (p14 + (1:Int32)), iv (1:Int32), iv p14] [(.int (p14 + (1:Int32))), (.int (44:Int32)), (.ref a1)])) rfl (by rw [hml]; rfl) (argsL := [(.int (44:Int32)), (.int (p14 + (1:Int32)))]) (rest := []) (lenOf pd14 rfl) rfl wf (hb hby d3_26) rfl (by decide) (by decide)
  obtain ⟨rfl, N64q, e64⟩ := hQ64
  have N64 := Fr.app N56 N64q
  obtain ⟨_, _, q66a, _, q66c⟩ := isOf hZ45 e64 f58
  obtain ⟨T66, _, _, X66, hSq66, hg66, Cq66, hQ66, st66⟩ := flH X64 (X64.virtualBackS hx (y := y15) (z := y15) hown45 (mo hZ45 hw 125 rfl) (mo hZ45 hw 73 rfl) (notFace_of_selects (args := #[]) (mo hZ45 hw 75 rfl)) (mo hZ45 hw 75 rfl) (mo hZ45 hw 74 rfl) (by decide) (backOfSH (s := s) (vm0 := T45.vm) (W := 2) (own_substr l Z a0 hw [] a1 a4 k6 c7 (p14 + (1:Int32)) p18 p9 k41 h50 n0 O_W50 f58 f60 f61 f63 H10 hc11 H12 H42 H43 hc65) hZ45 (ow hw 76 rfl) (ow hw 9 rfl) (by decide) (by decide) (own_EW hw) C_W50.1) q66a q66c (g := (mkF m 37 #[rv a1, rv b34, iv (p14 + (1:Int32)), iv (1:Int32), iv p18] [(.int p18), (.int (p14 + (1:Int32))), (.ref a1), (.int (1:Int32)), (.ref b34)])) rfl (by rw [hml]; rfl) (Steps.refl _) (argsL := [(.int (p14 + (1:Int32))), (.int p18)]) (rest := [(.int (1:Int32)), (.ref b34)]) (lenOf pd5 rfl) rfl wf (hb hby d3_37) (fun _ _ => ⟨rfl, e64, (by decide : 3 + 2 ≤ _), (by decide : 15 + 10 ≤ _)⟩))
  obtain ⟨Y66, hS66, hZ66, hown66⟩ := rebS (s := s) (vm0 := T45.vm) hS45 (by rw [e64]; exact (Nat.le_trans (Nat.le_refl _) (Keep.of_wr W50).1)) X66 hSq66 hg66 hZ45 hown45
  obtain ⟨b66_0, b66_1, k66_0, rfl, N66q, K66, f66_1, f66_2, f66_3, f66_4⟩ := hQ66
  have N66 := Fr.app N64 N66q
  have O_K66 : Old Z n0 T66.heap := O_W50.keep K66 all0
  have Kp_K66 : Keep h0 T66.heap [] := Kp_W50.trans K66 all0
  have c_K66 := Cq66
  have C_K66 := C_W50.trans c_K66
  have f67 := ((f46.wr W50).keep K66)
  have ne68 := Exa.ne f67 f66_1 (by decide)
  have f69 := (f52.keep K66 nin0)
  have ne70 := own_neAA f69 f66_4 (by decide)
  obtain ⟨cl71, Ar71, q71, S71, M71, H71, G71⟩ := id f69
  have hin71 : ¬ ((1:Int32) < 0 ∨ cl71.slots.size ≤ ((1:Int32)).toNatClampNeg) := inb_of S71 ⟨by decide, by decide⟩
  have f72 := f51
  obtain ⟨_, h71, X71, e71, W71, st71⟩ := stR Y66 hx hZ66 rfl Ar71 (j := (1:Int32)) hin71 rfl (Sto.ofV Ar71 q71 f72 (Ins.self f66_1)) (g := (mkF m 40 #[rv a1, rv b34, iv (p14 + (1:Int32)), iv (1:Int32), iv p18] [(.ref b66_0), (.int (1:Int32)), (.ref b34)])) rfl rfl (hb hby d3_40)
  have sf74 := (c_K66.safe ((C34.keep K45).wr W50).lt (c_W50.safe (C34.keep K45).lt sf55))
  have O_W71 : Old Z n0 h71 := O_K66.wr W71 g53
  have Kp_W71 : Keep h0 h71 [] := Kp_K66.wr W71 (Or.inr z54)
  have c_W71 := CHr.wr W71 sf74 C_K66.1
  have C_W71 := C_K66.trans c_W71
  have N75 := Fr.snoc X71 N66 g53
  have f73 : Arv Z h71 b34 k34 (.object "java/lang/String") (5:Int32) [(.ref b45_0), (.ref b66_0), .null, .null, .null] .null := Arv.set Ar71 q71 S71 M71 H71 G71 rfl W71 1 rfl (Nat.le_of_ble_eq_true rfl)
  obtain ⟨_, Ar76, _, S76, M76, _, _⟩ := id f73
  have f77 := ((f58.keep K66).wr W71)
  have f78 := ((f60.keep K66 nin0).other W71 (Or.inl ne59))
  have f79 := ((f61.keep K66 nin0).other W71 (Or.inl ne59))
  have f80 := ((f63.keep K66 nin0).other W71 ne62)
  obtain ⟨T81, _, _, X81, hQ81, st81⟩ := cV X71 hx hZ66 hw hown66 (y := y6) 124 rfl 29 rfl 31 rfl 30 rfl 32 rfl 9 rfl (by decide) (W := 0) (own_idx l Z a0 hw [] a1 a4 k6 c7 (p18 + (1:Int32)) p9 h71 n0 O_W71 f77 H10 hc11 f78 f79 f80 H12 hc21) (by decide) (by decide) f77 e71 (g := (mkF m 26 #[rv a1, rv b34, iv (p18 + (1:Int32)), iv (2:Int32), iv p18] [(.int (p18 + (1:Int32))), (.int (44:Int32)), (.ref a1)])) rfl (by rw [hml]; rfl) (argsL := [(.int (44:Int32)), (.int (p18 + (1:Int32)))]) (rest := []) (lenOf pd14 rfl) rfl wf (hb hby d3_26) rfl (by decide) (by decide)
  obtain ⟨rfl, N81q, e81⟩ := hQ81
  have N81 := Fr.app N75 N81q
  obtain ⟨_, _, q83a, _, q83c⟩ := isOf hZ66 e81 f77
  obtain ⟨T83, _, _, X83, hSq83, hg83, Cq83, hQ83, st83⟩ := flH X81 (X81.virtualBackS hx (y := y15) (z := y15) hown66 (mo hZ66 hw 125 rfl) (mo hZ66 hw 73 rfl) (notFace_of_selects (args := #[]) (mo hZ66 hw 75 rfl)) (mo hZ66 hw 75 rfl) (mo hZ66 hw 74 rfl) (by decide) (backOfSH (s := s) (vm0 := T66.vm) (W := 2) (own_substr l Z a0 hw [] a1 a4 k6 c7 (p18 + (1:Int32)) p22 p9 k41 h71 n0 O_W71 f77 f78 f79 f80 H10 hc11 H12 H42 H43 hc82) hZ66 (ow hw 76 rfl) (ow hw 9 rfl) (by decide) (by decide) (own_EW hw) C_W71.1) q83a q83c (g := (mkF m 37 #[rv a1, rv b34, iv (p18 + (1:Int32)), iv (2:Int32), iv p22] [(.int p22), (.int (p18 + (1:Int32))), (.ref a1), (.int (2:Int32)), (.ref b34)])) rfl (by rw [hml]; rfl) (Steps.refl _) (argsL := [(.int (p18 + (1:Int32))), (.int p22)]) (rest := [(.int (2:Int32)), (.ref b34)]) (lenOf pd5 rfl) rfl wf (hb hby d3_37) (fun _ _ => ⟨rfl, e81, (by decide : 5 + 2 ≤ _), (by decide : 25 + 10 ≤ _)⟩))
  obtain ⟨Y83, hS83, hZ83, hown83⟩ := rebS (s := s) (vm0 := T66.vm) hS66 (by rw [e81]; exact (Nat.le_trans (Nat.le_refl _) (Keep.of_wr W71).1)) X83 hSq83 hg83 hZ66 hown66
  obtain ⟨b83_0, b83_1, k83_0, rfl, N83q, K83, f83_1, f83_2, f83_3, f83_4⟩ := hQ83
  have N83 := Fr.app N81 N83q
  have O_K83 : Old Z n0 T83.heap := O_W71.keep K83 all0
  have Kp_K83 : Keep h0 T83.heap [] := Kp_W71.trans K83 all0
  have c_K83 := Cq83
  have C_K83 := C_W71.trans c_K83
  have f84 := ((f67.wr W71).keep K83)
  have ne85 := Exa.ne f84 f83_1 (by decide)
  have f86 := (f73.keep K83 nin0)
  have ne87 := own_neAA f86 f83_4 (by decide)
  obtain ⟨cl88, Ar88, q88, S88, M88, H88, G88⟩ := id f86
  have hin88 : ¬ ((2:Int32) < 0 ∨ cl88.slots.size ≤ ((2:Int32)).toNatClampNeg) := inb_of S88 ⟨by decide, by decide⟩
  have f89 := f72
  obtain ⟨_, h88, X88, e88, W88, st88⟩ := stR Y83 hx hZ83 rfl Ar88 (j := (2:Int32)) hin88 rfl (Sto.ofV Ar88 q88 f89 (Ins.self f83_1)) (g := (mkF m 40 #[rv a1, rv b34, iv (p18 + (1:Int32)), iv (2:Int32), iv p22] [(.ref b83_0), (.int (2:Int32)), (.ref b34)])) rfl rfl (hb hby d3_40)
  have sf91 := (c_K83.safe ((((C34.keep K45).wr W50).keep K66).wr W71).lt (c_W71.safe (((C34.keep K45).wr W50).keep K66).lt sf74))
  have O_W88 : Old Z n0 h88 := O_K83.wr W88 g53
  have Kp_W88 : Keep h0 h88 [] := Kp_K83.wr W88 (Or.inr z54)
  have c_W88 := CHr.wr W88 sf91 C_K83.1
  have C_W88 := C_K83.trans c_W88
  have N92 := Fr.snoc X88 N83 g53
  have f90 : Arv Z h88 b34 k34 (.object "java/lang/String") (5:Int32) [(.ref b45_0), (.ref b66_0), (.ref b83_0), .null, .null] .null := Arv.set Ar88 q88 S88 M88 H88 G88 rfl W88 2 rfl (Nat.le_of_ble_eq_true rfl)
  obtain ⟨_, Ar93, _, S93, M93, _, _⟩ := id f90
  have f94 := ((f77.keep K83).wr W88)
  have f95 := ((f78.keep K83 nin0).other W88 (Or.inl ne59))
  have f96 := ((f79.keep K83 nin0).other W88 (Or.inl ne59))
  have f97 := ((f80.keep K83 nin0).other W88 ne62)
  obtain ⟨T98, _, _, X98, hQ98, st98⟩ := cV X88 hx hZ83 hw hown83 (y := y6) 124 rfl 29 rfl 31 rfl 30 rfl 32 rfl 9 rfl (by decide) (W := 0) (own_idx l Z a0 hw [] a1 a4 k6 c7 (p22 + (1:Int32)) p9 h88 n0 O_W88 f94 H10 hc11 f95 f96 f97 H12 hc25) (by decide) (by decide) f94 e88 (g := (mkF m 26 #[rv a1, rv b34, iv (p22 + (1:Int32)), iv (3:Int32), iv p22] [(.int (p22 + (1:Int32))), (.int (44:Int32)), (.ref a1)])) rfl (by rw [hml]; rfl) (argsL := [(.int (44:Int32)), (.int (p22 + (1:Int32)))]) (rest := []) (lenOf pd14 rfl) rfl wf (hb hby d3_26) rfl (by decide) (by decide)
  obtain ⟨rfl, N98q, e98⟩ := hQ98
  have N98 := Fr.app N92 N98q
  obtain ⟨_, _, q100a, _, q100c⟩ := isOf hZ83 e98 f94
  obtain ⟨T100, _, _, X100, hSq100, hg100, Cq100, hQ100, st100⟩ := flH X98 (X98.virtualBackS hx (y := y15) (z := y15) hown83 (mo hZ83 hw 125 rfl) (mo hZ83 hw 73 rfl) (notFace_of_selects (args := #[]) (mo hZ83 hw 75 rfl)) (mo hZ83 hw 75 rfl) (mo hZ83 hw 74 rfl) (by decide) (backOfSH (s := s) (vm0 := T83.vm) (W := 2) (own_substr l Z a0 hw [] a1 a4 k6 c7 (p22 + (1:Int32)) p26 p9 k41 h88 n0 O_W88 f94 f95 f96 f97 H10 hc11 H12 H42 H43 hc99) hZ83 (ow hw 76 rfl) (ow hw 9 rfl) (by decide) (by decide) (own_EW hw) C_W88.1) q100a q100c (g := (mkF m 37 #[rv a1, rv b34, iv (p22 + (1:Int32)), iv (3:Int32), iv p26] [(.int p26), (.int (p22 + (1:Int32))), (.ref a1), (.int (3:Int32)), (.ref b34)])) rfl (by rw [hml]; rfl) (Steps.refl _) (argsL := [(.int (p22 + (1:Int32))), (.int p26)]) (rest := [(.int (3:Int32)), (.ref b34)]) (lenOf pd5 rfl) rfl wf (hb hby d3_37) (fun _ _ => ⟨rfl, e98, (by decide : 7 + 2 ≤ _), (by decide : 35 + 10 ≤ _)⟩))
  obtain ⟨Y100, hS100, hZ100, hown100⟩ := rebS (s := s) (vm0 := T83.vm) hS83 (by rw [e98]; exact (Nat.le_trans (Nat.le_refl _) (Keep.of_wr W88).1)) X100 hSq100 hg100 hZ83 hown83
  obtain ⟨b100_0, b100_1, k100_0, rfl, N100q, K100, f100_1, f100_2, f100_3, f100_4⟩ := hQ100
  have N100 := Fr.app N98 N100q
  have O_K100 : Old Z n0 T100.heap := O_W88.keep K100 all0
  have Kp_K100 : Keep h0 T100.heap [] := Kp_W88.trans K100 all0
  have c_K100 := Cq100
  have C_K100 := C_W88.trans c_K100
  have f101 := ((f84.wr W88).keep K100)
  have ne102 := Exa.ne f101 f100_1 (by decide)
  have f103 := (f90.keep K100 nin0)
  have ne104 := own_neAA f103 f100_4 (by decide)
  obtain ⟨cl105, Ar105, q105, S105, M105, H105, G105⟩ := id f103
  have hin105 : ¬ ((3:Int32) < 0 ∨ cl105.slots.size ≤ ((3:Int32)).toNatClampNeg) := inb_of S105 ⟨by decide, by decide⟩
  have f106 := f89
  obtain ⟨T105, h105, X105, e105, W105, st105⟩ := stR Y100 hx hZ100 rfl Ar105 (j := (3:Int32)) hin105 rfl (Sto.ofV Ar105 q105 f106 (Ins.self f100_1)) (g := (mkF m 40 #[rv a1, rv b34, iv (p22 + (1:Int32)), iv (3:Int32), iv p26] [(.ref b100_0), (.int (3:Int32)), (.ref b34)])) rfl rfl (hb hby d3_40)
  have sf108 := (c_K100.safe ((((((C34.keep K45).wr W50).keep K66).wr W71).keep K83).wr W88).lt (c_W88.safe (((((C34.keep K45).wr W50).keep K66).wr W71).keep K83).lt sf91))
  have O_W105 : Old Z n0 h105 := O_K100.wr W105 g53
  have Kp_W105 : Keep h0 h105 [] := Kp_K100.wr W105 (Or.inr z54)
  have c_W105 := CHr.wr W105 sf108 C_K100.1
  have C_W105 := C_K100.trans c_W105
  have N109 := Fr.snoc X105 N100 g53
  have f107 : Arv Z h105 b34 k34 (.object "java/lang/String") (5:Int32) [(.ref b45_0), (.ref b66_0), (.ref b83_0), (.ref b100_0), .null] .null := Arv.set Ar105 q105 S105 M105 H105 G105 rfl W105 3 rfl (Nat.le_of_ble_eq_true rfl)
  obtain ⟨_, Ar110, _, S110, M110, _, _⟩ := id f107
  obtain ⟨_, Ar111, _, S111, M111, _, _⟩ := id f107
  have f112 := ((f94.keep K100).wr W105)
  have f113 := ((f95.keep K100 nin0).other W105 (Or.inl ne59))
  have f114 := ((f96.keep K100 nin0).other W105 (Or.inl ne59))
  have f115 := ((f97.keep K100 nin0).other W105 ne62)
  obtain ⟨_, _, q117a, _, q117c⟩ := isOf hZ100 e105 f112
  obtain ⟨T117, _, _, X117, hSq117, hg117, Cq117, hQ117, st117⟩ := flH X105 (X105.virtualBackS hx (y := y14) (z := y14) hown100 (mo hZ100 hw 67 rfl) (mo hZ100 hw 68 rfl) (notFace_of_selects (args := #[]) (mo hZ100 hw 70 rfl)) (mo hZ100 hw 70 rfl) (mo hZ100 hw 69 rfl) (by decide) (backOfSH (s := s) (vm0 := T100.vm) (W := 2) (r14_2 l Z a0 hw [] a1 (p26 + (1:Int32)) a4 k6 c7 p9 k41 h105 n0 O_W105 f112 f113 f114 f115 H10 hc11 H12 H42 H43 hc116) hZ100 (ow hw 71 rfl) (ow hw 9 rfl) (by decide) (by decide) (own_EW hw) C_W105.1) q117a q117c (g := (mkF m 59 #[rv a1, rv b34, iv (p26 + (1:Int32)), iv (4:Int32), iv p26] [(.int (p26 + (1:Int32))), (.ref a1), (.int (4:Int32)), (.ref b34)])) rfl (by rw [hml]; rfl) (Steps.refl _) (argsL := [(.int (p26 + (1:Int32)))]) (rest := [(.int (4:Int32)), (.ref b34)]) (lenOf pd7 rfl) rfl wf (hb hby d3_59) (fun _ _ => ⟨rfl, e105, (by decide : 9 + 2 ≤ _), (by decide : 45 + 10 ≤ _)⟩))
  obtain ⟨Y117, hS117, hZ117, _⟩ := rebS (s := s) (vm0 := T100.vm) hS100 (by rw [e105]; exact (Nat.le_trans (Nat.le_refl _) (Keep.of_wr W105).1)) X117 hSq117 hg117 hZ100 hown100
  obtain ⟨b117_0, b117_1, k117_0, rfl, N117q, K117, f117_1, f117_2, f117_3, f117_4⟩ := hQ117
  have N117 := Fr.app N109 N117q
  have Kp_K117 : Keep h0 T117.heap [] := Kp_W105.trans K117 all0
  have c_K117 := Cq117
  have C_K117 := C_W105.trans c_K117
  have f118 := ((f101.wr W105).keep K117)
  have ne119 := Exa.ne f118 f117_1 (by decide)
  have f120 := (f107.keep K117 nin0)
  have ne121 := own_neAA f120 f117_4 (by decide)
  obtain ⟨cl122, Ar122, q122, S122, M122, H122, G122⟩ := id f120
  have hin122 : ¬ ((4:Int32) < 0 ∨ cl122.slots.size ≤ ((4:Int32)).toNatClampNeg) := inb_of S122 ⟨by decide, by decide⟩
  have f123 := f106
  obtain ⟨_, h122, X122, e122, W122, st122⟩ := stR Y117 hx hZ117 rfl Ar122 (j := (4:Int32)) hin122 rfl (Sto.ofV Ar122 q122 f123 (Ins.self f117_1)) (g := (mkF m 62 #[rv a1, rv b34, iv (p26 + (1:Int32)), iv (4:Int32), iv p26] [(.ref b117_0), (.int (4:Int32)), (.ref b34)])) rfl rfl (hb hby d3_62)
  have sf125 := (c_K117.safe ((((((((C34.keep K45).wr W50).keep K66).wr W71).keep K83).wr W88).keep K100).wr W105).lt (c_W105.safe (((((((C34.keep K45).wr W50).keep K66).wr W71).keep K83).wr W88).keep K100).lt sf108))
  have Kp_W122 : Keep h0 h122 [] := Kp_K117.wr W122 (Or.inr z54)
  have c_W122 := CHr.wr W122 sf125 C_K117.1
  have C_W122 := C_K117.trans c_W122
  have N126 := Fr.snoc X122 N117 g53
  have f124 : Arv Z h122 b34 k34 (.object "java/lang/String") (5:Int32) [(.ref b45_0), (.ref b66_0), (.ref b83_0), (.ref b100_0), (.ref b117_0)] .null := Arv.set Ar122 q122 S122 M122 H122 G122 rfl W122 4 rfl (Nat.le_of_ble_eq_true rfl)
  have f127 := (((((((((f45_1.wr W50).keep K66).wr W71).keep K83).wr W88).keep K100).wr W105).keep K117).wr W122)
  have f128 := (((((((((f45_3.other W50 (Or.inl (Ne.symm ne47))).keep K66 nin0).other W71 (Or.inl (Ne.symm ne47))).keep K83 nin0).other W88 (Or.inl (Ne.symm ne47))).keep K100 nin0).other W105 (Or.inl (Ne.symm ne47))).keep K117 nin0).other W122 (Or.inl (Ne.symm ne47)))
  have f129 := (((((((((f45_2.other W50 (Or.inl (Ne.symm ne47))).keep K66 nin0).other W71 (Or.inl (Ne.symm ne47))).keep K83 nin0).other W88 (Or.inl (Ne.symm ne47))).keep K100 nin0).other W105 (Or.inl (Ne.symm ne47))).keep K117 nin0).other W122 (Or.inl (Ne.symm ne47)))
  have f130 := (((((((((f45_4.other W50 (Ne.symm ne49)).keep K66 nin0).other W71 (Ne.symm ne49)).keep K83 nin0).other W88 (Ne.symm ne49)).keep K100 nin0).other W105 (Ne.symm ne49)).keep K117 nin0).other W122 (Ne.symm ne49))
  have f131 := (((((((f66_1.wr W71).keep K83).wr W88).keep K100).wr W105).keep K117).wr W122)
  have f132 := (((((((f66_3.other W71 (Or.inl (Ne.symm ne68))).keep K83 nin0).other W88 (Or.inl (Ne.symm ne68))).keep K100 nin0).other W105 (Or.inl (Ne.symm ne68))).keep K117 nin0).other W122 (Or.inl (Ne.symm ne68)))
  have f133 := (((((((f66_2.other W71 (Or.inl (Ne.symm ne68))).keep K83 nin0).other W88 (Or.inl (Ne.symm ne68))).keep K100 nin0).other W105 (Or.inl (Ne.symm ne68))).keep K117 nin0).other W122 (Or.inl (Ne.symm ne68)))
  have f134 := (((((((f66_4.other W71 (Ne.symm ne70)).keep K83 nin0).other W88 (Ne.symm ne70)).keep K100 nin0).other W105 (Ne.symm ne70)).keep K117 nin0).other W122 (Ne.symm ne70))
  have f135 := (((((f83_1.wr W88).keep K100).wr W105).keep K117).wr W122)
  have f136 := (((((f83_3.other W88 (Or.inl (Ne.symm ne85))).keep K100 nin0).other W105 (Or.inl (Ne.symm ne85))).keep K117 nin0).other W122 (Or.inl (Ne.symm ne85)))
  have f137 := (((((f83_2.other W88 (Or.inl (Ne.symm ne85))).keep K100 nin0).other W105 (Or.inl (Ne.symm ne85))).keep K117 nin0).other W122 (Or.inl (Ne.symm ne85)))
  have f138 := (((((f83_4.other W88 (Ne.symm ne87)).keep K100 nin0).other W105 (Ne.symm ne87)).keep K117 nin0).other W122 (Ne.symm ne87))
  have f139 := (((f100_1.wr W105).keep K117).wr W122)
  have f140 := (((f100_3.other W105 (Or.inl (Ne.symm ne102))).keep K117 nin0).other W122 (Or.inl (Ne.symm ne102)))
  have f141 := (((f100_2.other W105 (Or.inl (Ne.symm ne102))).keep K117 nin0).other W122 (Or.inl (Ne.symm ne102)))
  have f142 := (((f100_4.other W105 (Ne.symm ne104)).keep K117 nin0).other W122 (Ne.symm ne104))
  have f143 := (f117_1.wr W122)
  have f144 := (f117_3.other W122 (Or.inl (Ne.symm ne119)))
  have f145 := (f117_2.other W122 (Or.inl (Ne.symm ne119)))
  have f146 := (f117_4.other W122 (Ne.symm ne121))
  refine finH (Q := r3_5Q Z a1 a4 k6 c7 p9 p14 p18 p22 p26 p30 k41 h0 n0) (rm := (rM 6 15 77 95)) (vm := T117.vm) Bd X122 hZ117 (own_EW hw) C_W122 hh e122 hS117 (Nat.le_trans (Nat.le_refl _) (Keep.of_wr W122).1) (some (.ref b34)) nofun ⟨b34, rfl, N126, Kp_W122, z54, own_rows (rs := [b45_0, b66_0, b83_0, b100_0, b117_0]) H147 (Nat.le_of_ble_eq_true rfl) f124 ⟨⟨b45_1, k45_0, f127, f129, f128, f130⟩, ⟨b66_1, k66_0, f131, f133, f132, f134⟩, ⟨b83_1, k83_0, f135, f137, f136, f138⟩, ⟨b100_1, k100_0, f139, f141, f140, f142⟩, ⟨b117_1, k117_0, f143, f145, f144, f146⟩, trivial⟩⟩ (by decide) (by decide) fun fs hr => ?_
  show St p e below s₁ m 0 #[rv a1, un, un, un, un] [] _
  refine aN X0 hx hby d3_0 rfl rfl ?_
  refine st33 _ ?_
  refine iC X33 hx hby d3_4 ?_
  refine XS.iadd X33.here hx rfl (hb hby d3_5) rfl ?_
  refine st34 _ ?_
  refine XS.astoreN X34.here hx rfl (hb hby d3_9) rfl rfl (l' := #[rv a1, rv b34, un, un, un]) rfl ?_
  refine iC X34 hx hby d3_10 ?_
  refine XS.istoreN X34.here hx rfl (hb hby d3_11) rfl (l' := #[rv a1, rv b34, iv (0:Int32), un, un]) rfl ?_
  refine iC X34 hx hby d3_12 ?_
  refine XS.istoreN X34.here hx rfl (hb hby d3_13) rfl (l' := #[rv a1, rv b34, iv (0:Int32), iv (0:Int32), un]) rfl ?_
  refine iN X34 hx hby d3_14 rfl ?_
  refine aN X34 hx hby d3_15 rfl rfl ?_
  refine X34.arraylength hx (by rw [e34]; exact Ar35.1) (State.isArrayOf_alike hZ.alike Ar35.2.1) (g := (mkF m 16 #[rv a1, rv b34, iv (0:Int32), iv (0:Int32), un] [(.ref b34), (.int (0:Int32))])) rfl rfl (hb hby d3_16) _ ?_
  rw [len_of S35 M35]
  refine iC X34 hx hby d3_17 ?_
  refine XS.isub X34.here hx rfl (hb hby d3_18) rfl ?_
  refine XS.icmpNo X34.here hx rfl (hb hby d3_19) rfl (tlt (by decide : (0:Int32) < (4:Int32))).2.1 ?_
  refine aN X34 hx hby d3_22 rfl rfl ?_
  refine XS.bipush X34.here hx rfl (hb hby d3_23) ?_
  refine iN X34 hx hby d3_25 rfl ?_
  refine st40.trans ?_
  show St p e below T40 m 29 #[rv a1, rv b34, iv (0:Int32), iv (0:Int32), un] [(.int (own_ix c7 (0:Int32)))] _
  rw [H15]
  refine XS.istore X40.here hx rfl (hb hby d3_29) rfl (l' := #[rv a1, rv b34, iv (0:Int32), iv (0:Int32), iv p14]) rfl ?_
  refine aN X40 hx hby d3_31 rfl rfl ?_
  refine iN X40 hx hby d3_32 rfl ?_
  refine aN X40 hx hby d3_33 rfl rfl ?_
  refine iN X40 hx hby d3_34 rfl ?_
  show St p e below T40 m 35 #[rv a1, rv b34, iv (0:Int32), iv (0:Int32), iv p14] [(.int (0:Int32)), (.ref a1), (.int (0:Int32)), (.ref b34)] _
  refine iL X40 hx hby d3_35 rfl ?_
  refine st45.trans ?_
  refine st50 _ ?_
  refine iL X50 hx hby d3_41 rfl ?_
  refine iC X50 hx hby d3_43 ?_
  refine XS.iadd X50.here hx rfl (hb hby d3_44) rfl ?_
  refine XS.istoreN X50.here hx rfl (hb hby d3_45) rfl (l' := #[rv a1, rv b34, iv (p14 + (1:Int32)), iv (0:Int32), iv p14]) rfl ?_
  refine XS.iinc X50.here hx rfl (hb hby d3_46) rfl (l' := #[rv a1, rv b34, iv (p14 + (1:Int32)), iv (1:Int32), iv p14]) rfl ?_
  refine XS.goto X50.here hx rfl (pc0 := 49) (pc' := 14) rfl (hb hby d3_49) (by decide) (by decide) ?_
  refine iN X50 hx hby d3_14 rfl ?_
  refine aN X50 hx hby d3_15 rfl rfl ?_
  refine X50.arraylength hx (by rw [e50]; exact Ar57.1) (State.isArrayOf_alike hZ45.alike Ar57.2.1) (g := (mkF m 16 #[rv a1, rv b34, iv (p14 + (1:Int32)), iv (1:Int32), iv p14] [(.ref b34), (.int (1:Int32))])) rfl rfl (hb hby d3_16) _ ?_
  rw [len_of S57 M57]
  refine iC X50 hx hby d3_17 ?_
  refine XS.isub X50.here hx rfl (hb hby d3_18) rfl ?_
  refine XS.icmpNo X50.here hx rfl (hb hby d3_19) rfl (tlt (by decide : (1:Int32) < (4:Int32))).2.1 ?_
  refine aN X50 hx hby d3_22 rfl rfl ?_
  refine XS.bipush X50.here hx rfl (hb hby d3_23) ?_
  refine iN X50 hx hby d3_25 rfl ?_
  refine st64.trans ?_
  show St p e below T64 m 29 #[rv a1, rv b34, iv (p14 + (1:Int32)), iv (1:Int32), iv p14] [(.int (own_ix c7 (p14 + (1:Int32))))] _
  rw [H19]
  refine XS.istore X64.here hx rfl (hb hby d3_29) rfl (l' := #[rv a1, rv b34, iv (p14 + (1:Int32)), iv (1:Int32), iv p18]) rfl ?_
  refine aN X64 hx hby d3_31 rfl rfl ?_
  refine iN X64 hx hby d3_32 rfl ?_
  refine aN X64 hx hby d3_33 rfl rfl ?_
  refine iN X64 hx hby d3_34 rfl ?_
  refine iL X64 hx hby d3_35 rfl ?_
  show St p e below T64 m 37 #[rv a1, rv b34, iv (p14 + (1:Int32)), iv (1:Int32), iv p18] [(.int p18), (.int (p14 + (1:Int32))), (.ref a1), (.int (1:Int32)), (.ref b34)] _
  refine st66.trans ?_
  refine st71 _ ?_
  refine iL X71 hx hby d3_41 rfl ?_
  refine iC X71 hx hby d3_43 ?_
  refine XS.iadd X71.here hx rfl (hb hby d3_44) rfl ?_
  refine XS.istoreN X71.here hx rfl (hb hby d3_45) rfl (l' := #[rv a1, rv b34, iv (p18 + (1:Int32)), iv (1:Int32), iv p18]) rfl ?_
  refine XS.iinc X71.here hx rfl (hb hby d3_46) rfl (l' := #[rv a1, rv b34, iv (p18 + (1:Int32)), iv (2:Int32), iv p18]) rfl ?_
  refine XS.goto X71.here hx rfl (pc0 := 49) (pc' := 14) rfl (hb hby d3_49) (by decide) (by decide) ?_
  refine iN X71 hx hby d3_14 rfl ?_
  refine aN X71 hx hby d3_15 rfl rfl ?_
  refine X71.arraylength hx (by rw [e71]; exact Ar76.1) (State.isArrayOf_alike hZ66.alike Ar76.2.1) (g := (mkF m 16 #[rv a1, rv b34, iv (p18 + (1:Int32)), iv (2:Int32), iv p18] [(.ref b34), (.int (2:Int32))])) rfl rfl (hb hby d3_16) _ ?_
  rw [len_of S76 M76]
  refine iC X71 hx hby d3_17 ?_
  refine XS.isub X71.here hx rfl (hb hby d3_18) rfl ?_
  refine XS.icmpNo X71.here hx rfl (hb hby d3_19) rfl (tlt (by decide : (2:Int32) < (4:Int32))).2.1 ?_
  refine aN X71 hx hby d3_22 rfl rfl ?_
  refine XS.bipush X71.here hx rfl (hb hby d3_23) ?_
  refine iN X71 hx hby d3_25 rfl ?_
  refine st81.trans ?_
  show St p e below T81 m 29 #[rv a1, rv b34, iv (p18 + (1:Int32)), iv (2:Int32), iv p18] [(.int (own_ix c7 (p18 + (1:Int32))))] _
  rw [H23]
  refine XS.istore X81.here hx rfl (hb hby d3_29) rfl (l' := #[rv a1, rv b34, iv (p18 + (1:Int32)), iv (2:Int32), iv p22]) rfl ?_
  refine aN X81 hx hby d3_31 rfl rfl ?_
  refine iN X81 hx hby d3_32 rfl ?_
  refine aN X81 hx hby d3_33 rfl rfl ?_
  refine iN X81 hx hby d3_34 rfl ?_
  refine iL X81 hx hby d3_35 rfl ?_
  refine st83.trans ?_
  show St p e below T83 m 40 #[rv a1, rv b34, iv (p18 + (1:Int32)), iv (2:Int32), iv p22] [(.ref b83_0), (.int (2:Int32)), (.ref b34)] _
  refine st88 _ ?_
  refine iL X88 hx hby d3_41 rfl ?_
  refine iC X88 hx hby d3_43 ?_
  refine XS.iadd X88.here hx rfl (hb hby d3_44) rfl ?_
  refine XS.istoreN X88.here hx rfl (hb hby d3_45) rfl (l' := #[rv a1, rv b34, iv (p22 + (1:Int32)), iv (2:Int32), iv p22]) rfl ?_
  refine XS.iinc X88.here hx rfl (hb hby d3_46) rfl (l' := #[rv a1, rv b34, iv (p22 + (1:Int32)), iv (3:Int32), iv p22]) rfl ?_
  refine XS.goto X88.here hx rfl (pc0 := 49) (pc' := 14) rfl (hb hby d3_49) (by decide) (by decide) ?_
  refine iN X88 hx hby d3_14 rfl ?_
  refine aN X88 hx hby d3_15 rfl rfl ?_
  refine X88.arraylength hx (by rw [e88]; exact Ar93.1) (State.isArrayOf_alike hZ83.alike Ar93.2.1) (g := (mkF m 16 #[rv a1, rv b34, iv (p22 + (1:Int32)), iv (3:Int32), iv p22] [(.ref b34), (.int (3:Int32))])) rfl rfl (hb hby d3_16) _ ?_
  rw [len_of S93 M93]
  refine iC X88 hx hby d3_17 ?_
  refine XS.isub X88.here hx rfl (hb hby d3_18) rfl ?_
  refine XS.icmpNo X88.here hx rfl (hb hby d3_19) rfl (tlt (by decide : (3:Int32) < (4:Int32))).2.1 ?_
  refine aN X88 hx hby d3_22 rfl rfl ?_
  refine XS.bipush X88.here hx rfl (hb hby d3_23) ?_
  refine iN X88 hx hby d3_25 rfl ?_
  refine st98.trans ?_
  show St p e below T98 m 29 #[rv a1, rv b34, iv (p22 + (1:Int32)), iv (3:Int32), iv p22] [(.int (own_ix c7 (p22 + (1:Int32))))] _
  rw [H27]
  refine XS.istore X98.here hx rfl (hb hby d3_29) rfl (l' := #[rv a1, rv b34, iv (p22 + (1:Int32)), iv (3:Int32), iv p26]) rfl ?_
  refine aN X98 hx hby d3_31 rfl rfl ?_
  refine iN X98 hx hby d3_32 rfl ?_
  refine aN X98 hx hby d3_33 rfl rfl ?_
  refine iN X98 hx hby d3_34 rfl ?_
  refine iL X98 hx hby d3_35 rfl ?_
  refine st100.trans ?_
  refine st105 _ ?_
  show St p e below T105 m 41 #[rv a1, rv b34, iv (p22 + (1:Int32)), iv (3:Int32), iv p26] [] _
  refine iL X105 hx hby d3_41 rfl ?_
  refine iC X105 hx hby d3_43 ?_
  refine XS.iadd X105.here hx rfl (hb hby d3_44) rfl ?_
  refine XS.istoreN X105.here hx rfl (hb hby d3_45) rfl (l' := #[rv a1, rv b34, iv (p26 + (1:Int32)), iv (3:Int32), iv p26]) rfl ?_
  refine XS.iinc X105.here hx rfl (hb hby d3_46) rfl (l' := #[rv a1, rv b34, iv (p26 + (1:Int32)), iv (4:Int32), iv p26]) rfl ?_
  refine XS.goto X105.here hx rfl (pc0 := 49) (pc' := 14) rfl (hb hby d3_49) (by decide) (by decide) ?_
  refine iN X105 hx hby d3_14 rfl ?_
  refine aN X105 hx hby d3_15 rfl rfl ?_
  refine X105.arraylength hx (by rw [e105]; exact Ar110.1) (State.isArrayOf_alike hZ100.alike Ar110.2.1) (g := (mkF m 16 #[rv a1, rv b34, iv (p26 + (1:Int32)), iv (4:Int32), iv p26] [(.ref b34), (.int (4:Int32))])) rfl rfl (hb hby d3_16) _ ?_
  rw [len_of S110 M110]
  refine iC X105 hx hby d3_17 ?_
  refine XS.isub X105.here hx rfl (hb hby d3_18) rfl ?_
  refine XS.icmpYes X105.here hx rfl (pc0 := 19) (pc' := 52) rfl (hb hby d3_19) rfl (flt (by decide : ¬ ((4:Int32) < (4:Int32)))).2.1 (by decide) (by decide) ?_
  refine aN X105 hx hby d3_52 rfl rfl ?_
  refine aN X105 hx hby d3_53 rfl rfl ?_
  refine X105.arraylength hx (by rw [e105]; exact Ar111.1) (State.isArrayOf_alike hZ100.alike Ar111.2.1) (g := (mkF m 54 #[rv a1, rv b34, iv (p26 + (1:Int32)), iv (4:Int32), iv p26] [(.ref b34), (.ref b34)])) rfl rfl (hb hby d3_54) _ ?_
  rw [len_of S111 M111]
  refine iC X105 hx hby d3_55 ?_
  refine XS.isub X105.here hx rfl (hb hby d3_56) rfl ?_
  refine aN X105 hx hby d3_57 rfl rfl ?_
  refine iN X105 hx hby d3_58 rfl ?_
  refine st117.trans ?_
  refine st122 _ ?_
  refine aN X122 hx hby d3_63 rfl rfl ?_
  exact retA X122 hx Bd.returns rfl rfl (hb hby d3_64) hr
def r3_6Q (Z : State) (a1 a4 : Addr) (k6 : ClassId) (c7 : List Int32) (p9 p14 p18 p22 p26 p30 p34:Int32) (k45 : Value) (h0 : Heap) (n0 : Nat) : QT := fun v h L => own_fldQ Z c7 h0 n0 v h L
theorem r3_6 (l : Launch) (Z : State) (a0 : Array Value) (hw : HW a0 Z) (ws : List Jvm.Cond) (a1 a4 : Addr) (k6 : ClassId) (c7 : List Int32) (p9 p14 p18 p22 p26 p30 p34:Int32) (k45 : Value) (h0 : Heap) (n0 : Nat) (O0 : Old Z n0 h0) (H2 : xE1 Z h0 a1) (H3 : xF2 Z h0 a1 (.int (0:Int32))) (H5 : xF3 Z h0 a1 (.ref a4)) (H8 : Arv Z h0 a4 k6 .byte (own_tn c7) (own_tb c7) (.int (0:Int32))) (H10 : Sta Z Z.heap "java/lang/String" "COMPACT_STRINGS" "Z" (.int p9)) (hc11 : ¬ (p9 = (0:Int32))) (H12 : own_GT c7) (hc13 : own_po c7 (0:Int32)) (H15 : (own_ix c7 (0:Int32)) = p14) (hc16 : ¬ (p14 < (0:Int32))) (hc17 : own_po c7 (p14 + (1:Int32))) (H19 : (own_ix c7 (p14 + (1:Int32))) = p18) (hc20 : ¬ (p18 < (0:Int32))) (hc21 : own_po c7 (p18 + (1:Int32))) (H23 : (own_ix c7 (p18 + (1:Int32))) = p22) (hc24 : ¬ (p22 < (0:Int32))) (hc25 : own_po c7 (p22 + (1:Int32))) (H27 : (own_ix c7 (p22 + (1:Int32))) = p26) (hc28 : ¬ (p26 < (0:Int32))) (hc29 : own_po c7 (p26 + (1:Int32))) (H31 : (own_ix c7 (p26 + (1:Int32))) = p30) (hc32 : ¬ (p30 < (0:Int32))) (hc33 : own_po c7 (p30 + (1:Int32))) (H35 : (own_ix c7 (p30 + (1:Int32))) = p34) (hc36 : p34 < (0:Int32)) (H46 : Sta Z Z.heap "jdk/internal/util/Preconditions" "SIOOBE_FORMATTER" "Ljava/util/function/BiFunction;" k45) (H47 : k45.isRef = true) (hc48 : own_rng c7 (0:Int32) p14) (hc69 : own_rng c7 (p14 + (1:Int32)) p18) (hc86 : own_rng c7 (p18 + (1:Int32)) p22) (hc103 : own_rng c7 (p22 + (1:Int32)) p26) (hc120 : own_rng c7 (p26 + (1:Int32)) p30) (hc137 : own_rng c7 (p30 + (1:Int32)) (own_tn c7)) (H172 : own_sp c7 = [(own_sub c7 (0:Int32) p14), (own_sub c7 (p14 + (1:Int32)) p18), (own_sub c7 (p18 + (1:Int32)) p22), (own_sub c7 (p22 + (1:Int32)) p26), (own_sub c7 (p26 + (1:Int32)) p30), (own_sub c7 (p30 + (1:Int32)) (own_tn c7))]) :
    MFH l y3 cP22_2 5 (some (.array (.object "java/lang/String"))) ws (rM 6 15 77 95) Z #[(.ref a1)] h0 (r3_6Q Z a1 a4 k6 c7 p9 p14 p18 p22 p26 p30 p34 k45 h0 n0) := by
  refine own_inH (pq pn1) #[rv a1, un, un, un, un] (fun _ => by first | (simp [entryFrame, mkF, argsToLocals, Value.category]; done) | rfl) ?_
  intro p e s m below meth c s₁ Bd hx hby hml hown hnm hZ hh C0 e0 X0
  have N0 := Fr.nil n0
  obtain ⟨_, _, _, X37, hQ37, st37⟩ := cS X0 hx hZ hw hown (y := y4) 20 rfl 21 rfl 18 rfl 22 rfl (by decide) (W := 0) (r4_6 l Z a0 hw [] a1 a4 k6 c7 p9 p14 p18 p22 p26 p30 p34 h0 n0 O0 H2 H3 H5 H8 H10 hc11 H12 hc13 H15 hc16 hc17 H19 hc20 hc21 H23 hc24 hc25 H27 hc28 hc29 H31 hc32 hc33 H35 hc36) (by decide) (by decide) e0 (g := (mkF m 1 #[rv a1, un, un, un, un] [(.ref a1)])) rfl (by rw [hml]; rfl) (argsL := [(.ref a1)]) (rest := []) (lenOf pd6 rfl) rfl wf (hb hby d3_1) rfl (by decide) (by decide)
  obtain ⟨rfl, N37q, e37⟩ := hQ37
  have N37 := Fr.app N0 N37q
  obtain ⟨_, h38, k38, X38, e38, E38, A38, C38, Ov38, st38⟩ := newRE X37 hx hZ hown (ow hw 65 rfl) (ow hw 66 rfl) e37 (g := (mkF m 6 #[rv a1, un, un, un, un] [(.int (6:Int32))])) rfl (hb hby d3_6) rfl (by decide) (cap := 6) (by decide) (by decide) (by decide) (by decide) (ad := "[Ljava/lang/String;") (by decide)
  obtain ⟨b38, g38⟩ : ∃ z, z = h0.size := ⟨_, rfl⟩
  rw [← g38] at A38 C38 st38
  have O_E38 : Old Z n0 h38 := O0.ext E38
  have Kp_E38 : Keep h0 h38 [] := (Keep.refl h0 []).ext E38
  have c_E38 := CHr.ext E38 C0.1
  have C_E38 := C0.trans c_E38
  have V38 : Arv Z h38 b38 k38 (.object "java/lang/String") (6:Int32) [.null, .null, .null, .null, .null, .null] .null := (Arv.new A38 (by decide)).pad (pad_rep [] .null 6)
  obtain ⟨_, Ar39, _, S39, M39, _, _⟩ := id V38
  have f40 := (H2.ext E38)
  have f41 := (H3.ext E38)
  have f42 := (H5.ext E38)
  have f43 := (H8.ext E38)
  obtain ⟨T44, _, _, X44, hQ44, st44⟩ := cV X38 hx hZ hw hown (y := y6) 124 rfl 29 rfl 31 rfl 30 rfl 32 rfl 9 rfl (by decide) (W := 0) (own_idx l Z a0 hw [] a1 a4 k6 c7 (0:Int32) p9 h38 n0 O_E38 f40 H10 hc11 f41 f42 f43 H12 hc13) (by decide) (by decide) f40 e38 (g := (mkF m 26 #[rv a1, rv b38, iv (0:Int32), iv (0:Int32), un] [(.int (0:Int32)), (.int (44:Int32)), (.ref a1)])) rfl (by rw [hml]; rfl) (argsL := [(.int (44:Int32)), (.int (0:Int32))]) (rest := []) (lenOf pd14 rfl) rfl wf (hb hby d3_26) rfl (by decide) (by decide)
  obtain ⟨rfl, N44q, e44⟩ := hQ44
  have N44 := Fr.app N37 N44q
  obtain ⟨_, _, q49a, _, q49c⟩ := isOf hZ e44 f40
  obtain ⟨T49, _, _, X49, hSq49, hg49, Cq49, hQ49, st49⟩ := flH X44 (X44.virtualBackS hx (y := y15) (z := y15) hown (mo hZ hw 125 rfl) (mo hZ hw 73 rfl) (notFace_of_selects (args := #[]) (mo hZ hw 75 rfl)) (mo hZ hw 75 rfl) (mo hZ hw 74 rfl) (by decide) (backOfSH (s := s) (vm0 := s.vm) (W := 2) (own_substr l Z a0 hw [] a1 a4 k6 c7 (0:Int32) p14 p9 k45 h38 n0 O_E38 f40 f41 f42 f43 H10 hc11 H12 H46 H47 hc48) hZ (ow hw 76 rfl) (ow hw 9 rfl) (by decide) (by decide) (own_EW hw) C_E38.1) q49a q49c (g := (mkF m 37 #[rv a1, rv b38, iv (0:Int32), iv (0:Int32), iv p14] [(.int p14), (.int (0:Int32)), (.ref a1), (.int (0:Int32)), (.ref b38)])) rfl (by rw [hml]; rfl) (Steps.refl _) (argsL := [(.int (0:Int32)), (.int p14)]) (rest := [(.int (0:Int32)), (.ref b38)]) (lenOf pd5 rfl) rfl wf (hb hby d3_37) (fun _ _ => ⟨rfl, e44, (by decide : 1 + 2 ≤ _), (by decide : 6 + 10 ≤ _)⟩))
  obtain ⟨Y49, hS49, hZ49, hown49⟩ := rebS (s := s) (vm0 := s.vm) (State.WarmedH.since (State.WarmedH.refl s) 0) (by rw [e44]; exact (Nat.zero_le _)) X49 hSq49 hg49 hZ hown
  obtain ⟨b49_0, b49_1, k49_0, rfl, N49q, K49, f49_1, f49_2, f49_3, f49_4⟩ := hQ49
  have N49 := Fr.app N44 N49q
  have O_K49 : Old Z n0 T49.heap := O_E38.keep K49 all0
  have Kp_K49 : Keep h0 T49.heap [] := Kp_E38.trans K49 all0
  have c_K49 := Cq49
  have C_K49 := C_E38.trans c_K49
  have f50 := (C38.keep K49)
  have ne51 := Exa.ne f50 f49_1 (by decide)
  have f52 := (V38.keep K49 nin0)
  have ne53 := own_neAA f52 f49_4 (by decide)
  obtain ⟨cl54, Ar54, q54, S54, M54, H54, G54⟩ := id f52
  have hin54 : ¬ ((0:Int32) < 0 ∨ cl54.slots.size ≤ ((0:Int32)).toNatClampNeg) := inb_of S54 ⟨by decide, by decide⟩
  have f55 := Ov38
  obtain ⟨_, h54, X54, e54, W54, st54⟩ := stR Y49 hx hZ49 rfl Ar54 (j := (0:Int32)) hin54 rfl (Sto.ofV Ar54 q54 f55 (Ins.self f49_1)) (g := (mkF m 40 #[rv a1, rv b38, iv (0:Int32), iv (0:Int32), iv p14] [(.ref b49_0), (.int (0:Int32)), (.ref b38)])) rfl rfl (hb hby d3_40)
  have g57 : n0 ≤ b38 := Nat.le_trans (Nat.le_trans (Nat.le_of_eq O0.1.symm) O0.2.1) (Nat.le_of_eq g38.symm)
  have z58 : h0.size ≤ b38 := Nat.le_trans (Keep.refl h0 []).1 (Nat.le_of_eq g38.symm)
  have sf59 := (c_K49.safe C38.lt (Safe.ext E38 C0.1 (Safe.new (Nat.le_of_eq g38.symm))))
  have O_W54 : Old Z n0 h54 := O_K49.wr W54 g57
  have Kp_W54 : Keep h0 h54 [] := Kp_K49.wr W54 (Or.inr z58)
  have c_W54 := CHr.wr W54 sf59 C_K49.1
  have C_W54 := C_K49.trans c_W54
  have N60 := Fr.snoc X54 N49 g57
  have f56 : Arv Z h54 b38 k38 (.object "java/lang/String") (6:Int32) [(.ref b49_0), .null, .null, .null, .null, .null] .null := Arv.set Ar54 q54 S54 M54 H54 G54 rfl W54 0 rfl (Nat.le_of_ble_eq_true rfl)
  obtain ⟨_, Ar61, _, S61, M61, _, _⟩ := id f56
  have f62 := ((f40.keep K49).wr W54)
  have ne63 : a1 ≠ b38 := Nat.ne_of_lt (Nat.lt_of_lt_of_le H2.lt (Nat.le_of_eq g38.symm))
  have f64 := ((f41.keep K49 nin0).other W54 (Or.inl ne63))
  have f65 := ((f42.keep K49 nin0).other W54 (Or.inl ne63))
  have ne66 : a4 ≠ b38 := Nat.ne_of_lt (Nat.lt_of_lt_of_le H8.lt (Nat.le_of_eq g38.symm))
  have f67 := ((f43.keep K49 nin0).other W54 ne66)
  obtain ⟨T68, _, _, X68, hQ68, st68⟩ := cV X54 hx hZ49 hw hown49 (y := y6) 124 rfl 29 rfl 31 rfl 30 rfl 32 rfl 9 rfl (by decide) (W := 0) (own_idx l Z a0 hw [] a1 a4 k6 c7 (p14 + (1:Int32)) p9 h54 n0 O_W54 f62 H10 hc11 f64 f65 f67 H12 hc17) (by decide) (by decide) f62 e54 (g := (mkF m 26 #[rv a1, rv b38, iv (p14 + (1:Int32)), iv (1:Int32), iv p14] [(.int (p14 + (1:Int32))), (.int (44:Int32)), (.ref a1)])) rfl (by rw [hml]; rfl) (argsL := [(.int (44:Int32)), (.int (p14 + (1:Int32)))]) (rest := []) (lenOf pd14 rfl) rfl wf (hb hby d3_26) rfl (by decide) (by decide)
  obtain ⟨rfl, N68q, e68⟩ := hQ68
  have N68 := Fr.app N60 N68q
  obtain ⟨_, _, q70a, _, q70c⟩ := isOf hZ49 e68 f62
  obtain ⟨T70, _, _, X70, hSq70, hg70, Cq70, hQ70, st70⟩ := flH X68 (X68.virtualBackS hx (y := y15) (z := y15) hown49 (mo hZ49 hw 125 rfl) (mo hZ49 hw 73 rfl) (notFace_of_selects (args := #[]) (mo hZ49 hw 75 rfl)) (mo hZ49 hw 75 rfl) (mo hZ49 hw 74 rfl) (by decide) (backOfSH (s := s) (vm0 := T49.vm) (W := 2) (own_substr l Z a0 hw [] a1 a4 k6 c7 (p14 + (1:Int32)) p18 p9 k45 h54 n0 O_W54 f62 f64 f65 f67 H10 hc11 H12 H46 H47 hc69) hZ49 (ow hw 76 rfl) (ow hw 9 rfl) (by decide) (by decide) (own_EW hw) C_W54.1) q70a q70c (g := (mkF m 37 #[rv a1, rv b38, iv (p14 + (1:Int32)), iv (1:Int32), iv p18] [(.int p18), (.int (p14 + (1:Int32))), (.ref a1), (.int (1:Int32)), (.ref b38)])) rfl (by rw [hml]; rfl) (Steps.refl _) (argsL := [(.int (p14 + (1:Int32))), (.int p18)]) (rest := [(.int (1:Int32)), (.ref b38)]) (lenOf pd5 rfl) rfl wf (hb hby d3_37) (fun _ _ => ⟨rfl, e68, (by decide : 3 + 2 ≤ _), (by decide : 16 + 10 ≤ _)⟩))
  obtain ⟨Y70, hS70, hZ70, hown70⟩ := rebS (s := s) (vm0 := T49.vm) hS49 (by rw [e68]; exact (Nat.le_trans (Nat.le_refl _) (Keep.of_wr W54).1)) X70 hSq70 hg70 hZ49 hown49
  obtain ⟨b70_0, b70_1, k70_0, rfl, N70q, K70, f70_1, f70_2, f70_3, f70_4⟩ := hQ70
  have N70 := Fr.app N68 N70q
  have O_K70 : Old Z n0 T70.heap := O_W54.keep K70 all0
  have Kp_K70 : Keep h0 T70.heap [] := Kp_W54.trans K70 all0
  have c_K70 := Cq70
  have C_K70 := C_W54.trans c_K70
  have f71 := ((f50.wr W54).keep K70)
  have ne72 := Exa.ne f71 f70_1 (by decide)
  have f73 := (f56.keep K70 nin0)
  have ne74 := own_neAA f73 f70_4 (by decide)
  obtain ⟨cl75, Ar75, q75, S75, M75, H75, G75⟩ := id f73
  have hin75 : ¬ ((1:Int32) < 0 ∨ cl75.slots.size ≤ ((1:Int32)).toNatClampNeg) := inb_of S75 ⟨by decide, by decide⟩
  have f76 := f55
  obtain ⟨_, h75, X75, e75, W75, st75⟩ := stR Y70 hx hZ70 rfl Ar75 (j := (1:Int32)) hin75 rfl (Sto.ofV Ar75 q75 f76 (Ins.self f70_1)) (g := (mkF m 40 #[rv a1, rv b38, iv (p14 + (1:Int32)), iv (1:Int32), iv p18] [(.ref b70_0), (.int (1:Int32)), (.ref b38)])) rfl rfl (hb hby d3_40)
  have sf78 := (c_K70.safe ((C38.keep K49).wr W54).lt (c_W54.safe (C38.keep K49).lt sf59))
  have O_W75 : Old Z n0 h75 := O_K70.wr W75 g57
  have Kp_W75 : Keep h0 h75 [] := Kp_K70.wr W75 (Or.inr z58)
  have c_W75 := CHr.wr W75 sf78 C_K70.1
  have C_W75 := C_K70.trans c_W75
  have N79 := Fr.snoc X75 N70 g57
  have f77 : Arv Z h75 b38 k38 (.object "java/lang/String") (6:Int32) [(.ref b49_0), (.ref b70_0), .null, .null, .null, .null] .null := Arv.set Ar75 q75 S75 M75 H75 G75 rfl W75 1 rfl (Nat.le_of_ble_eq_true rfl)
  obtain ⟨_, Ar80, _, S80, M80, _, _⟩ := id f77
  have f81 := ((f62.keep K70).wr W75)
  have f82 := ((f64.keep K70 nin0).other W75 (Or.inl ne63))
  have f83 := ((f65.keep K70 nin0).other W75 (Or.inl ne63))
  have f84 := ((f67.keep K70 nin0).other W75 ne66)
  obtain ⟨T85, _, _, X85, hQ85, st85⟩ := cV X75 hx hZ70 hw hown70 (y := y6) 124 rfl 29 rfl 31 rfl 30 rfl 32 rfl 9 rfl (by decide) (W := 0) (own_idx l Z a0 hw [] a1 a4 k6 c7 (p18 + (1:Int32)) p9 h75 n0 O_W75 f81 H10 hc11 f82 f83 f84 H12 hc21) (by decide) (by decide) f81 e75 (g := (mkF m 26 #[rv a1, rv b38, iv (p18 + (1:Int32)), iv (2:Int32), iv p18] [(.int (p18 + (1:Int32))), (.int (44:Int32)), (.ref a1)])) rfl (by rw [hml]; rfl) (argsL := [(.int (44:Int32)), (.int (p18 + (1:Int32)))]) (rest := []) (lenOf pd14 rfl) rfl wf (hb hby d3_26) rfl (by decide) (by decide)
  obtain ⟨rfl, N85q, e85⟩ := hQ85
  have N85 := Fr.app N79 N85q
  obtain ⟨_, _, q87a, _, q87c⟩ := isOf hZ70 e85 f81
  obtain ⟨T87, _, _, X87, hSq87, hg87, Cq87, hQ87, st87⟩ := flH X85 (X85.virtualBackS hx (y := y15) (z := y15) hown70 (mo hZ70 hw 125 rfl) (mo hZ70 hw 73 rfl) (notFace_of_selects (args := #[]) (mo hZ70 hw 75 rfl)) (mo hZ70 hw 75 rfl) (mo hZ70 hw 74 rfl) (by decide) (backOfSH (s := s) (vm0 := T70.vm) (W := 2) (own_substr l Z a0 hw [] a1 a4 k6 c7 (p18 + (1:Int32)) p22 p9 k45 h75 n0 O_W75 f81 f82 f83 f84 H10 hc11 H12 H46 H47 hc86) hZ70 (ow hw 76 rfl) (ow hw 9 rfl) (by decide) (by decide) (own_EW hw) C_W75.1) q87a q87c (g := (mkF m 37 #[rv a1, rv b38, iv (p18 + (1:Int32)), iv (2:Int32), iv p22] [(.int p22), (.int (p18 + (1:Int32))), (.ref a1), (.int (2:Int32)), (.ref b38)])) rfl (by rw [hml]; rfl) (Steps.refl _) (argsL := [(.int (p18 + (1:Int32))), (.int p22)]) (rest := [(.int (2:Int32)), (.ref b38)]) (lenOf pd5 rfl) rfl wf (hb hby d3_37) (fun _ _ => ⟨rfl, e85, (by decide : 5 + 2 ≤ _), (by decide : 26 + 10 ≤ _)⟩))
  obtain ⟨Y87, hS87, hZ87, hown87⟩ := rebS (s := s) (vm0 := T70.vm) hS70 (by rw [e85]; exact (Nat.le_trans (Nat.le_refl _) (Keep.of_wr W75).1)) X87 hSq87 hg87 hZ70 hown70
  obtain ⟨b87_0, b87_1, k87_0, rfl, N87q, K87, f87_1, f87_2, f87_3, f87_4⟩ := hQ87
  have N87 := Fr.app N85 N87q
  have O_K87 : Old Z n0 T87.heap := O_W75.keep K87 all0
  have Kp_K87 : Keep h0 T87.heap [] := Kp_W75.trans K87 all0
  have c_K87 := Cq87
  have C_K87 := C_W75.trans c_K87
  have f88 := ((f71.wr W75).keep K87)
  have ne89 := Exa.ne f88 f87_1 (by decide)
  have f90 := (f77.keep K87 nin0)
  have ne91 := own_neAA f90 f87_4 (by decide)
  obtain ⟨cl92, Ar92, q92, S92, M92, H92, G92⟩ := id f90
  have hin92 : ¬ ((2:Int32) < 0 ∨ cl92.slots.size ≤ ((2:Int32)).toNatClampNeg) := inb_of S92 ⟨by decide, by decide⟩
  have f93 := f76
  obtain ⟨_, h92, X92, e92, W92, st92⟩ := stR Y87 hx hZ87 rfl Ar92 (j := (2:Int32)) hin92 rfl (Sto.ofV Ar92 q92 f93 (Ins.self f87_1)) (g := (mkF m 40 #[rv a1, rv b38, iv (p18 + (1:Int32)), iv (2:Int32), iv p22] [(.ref b87_0), (.int (2:Int32)), (.ref b38)])) rfl rfl (hb hby d3_40)
  have sf95 := (c_K87.safe ((((C38.keep K49).wr W54).keep K70).wr W75).lt (c_W75.safe (((C38.keep K49).wr W54).keep K70).lt sf78))
  have O_W92 : Old Z n0 h92 := O_K87.wr W92 g57
  have Kp_W92 : Keep h0 h92 [] := Kp_K87.wr W92 (Or.inr z58)
  have c_W92 := CHr.wr W92 sf95 C_K87.1
  have C_W92 := C_K87.trans c_W92
  have N96 := Fr.snoc X92 N87 g57
  have f94 : Arv Z h92 b38 k38 (.object "java/lang/String") (6:Int32) [(.ref b49_0), (.ref b70_0), (.ref b87_0), .null, .null, .null] .null := Arv.set Ar92 q92 S92 M92 H92 G92 rfl W92 2 rfl (Nat.le_of_ble_eq_true rfl)
  obtain ⟨_, Ar97, _, S97, M97, _, _⟩ := id f94
  have f98 := ((f81.keep K87).wr W92)
  have f99 := ((f82.keep K87 nin0).other W92 (Or.inl ne63))
  have f100 := ((f83.keep K87 nin0).other W92 (Or.inl ne63))
  have f101 := ((f84.keep K87 nin0).other W92 ne66)
  obtain ⟨T102, _, _, X102, hQ102, st102⟩ := cV X92 hx hZ87 hw hown87 (y := y6) 124 rfl 29 rfl 31 rfl 30 rfl 32 rfl 9 rfl (by decide) (W := 0) (own_idx l Z a0 hw [] a1 a4 k6 c7 (p22 + (1:Int32)) p9 h92 n0 O_W92 f98 H10 hc11 f99 f100 f101 H12 hc25) (by decide) (by decide) f98 e92 (g := (mkF m 26 #[rv a1, rv b38, iv (p22 + (1:Int32)), iv (3:Int32), iv p22] [(.int (p22 + (1:Int32))), (.int (44:Int32)), (.ref a1)])) rfl (by rw [hml]; rfl) (argsL := [(.int (44:Int32)), (.int (p22 + (1:Int32)))]) (rest := []) (lenOf pd14 rfl) rfl wf (hb hby d3_26) rfl (by decide) (by decide)
  obtain ⟨rfl, N102q, e102⟩ := hQ102
  have N102 := Fr.app N96 N102q
  obtain ⟨_, _, q104a, _, q104c⟩ := isOf hZ87 e102 f98
  obtain ⟨T104, _, _, X104, hSq104, hg104, Cq104, hQ104, st104⟩ := flH X102 (X102.virtualBackS hx (y := y15) (z := y15) hown87 (mo hZ87 hw 125 rfl) (mo hZ87 hw 73 rfl) (notFace_of_selects (args := #[]) (mo hZ87 hw 75 rfl)) (mo hZ87 hw 75 rfl) (mo hZ87 hw 74 rfl) (by decide) (backOfSH (s := s) (vm0 := T87.vm) (W := 2) (own_substr l Z a0 hw [] a1 a4 k6 c7 (p22 + (1:Int32)) p26 p9 k45 h92 n0 O_W92 f98 f99 f100 f101 H10 hc11 H12 H46 H47 hc103) hZ87 (ow hw 76 rfl) (ow hw 9 rfl) (by decide) (by decide) (own_EW hw) C_W92.1) q104a q104c (g := (mkF m 37 #[rv a1, rv b38, iv (p22 + (1:Int32)), iv (3:Int32), iv p26] [(.int p26), (.int (p22 + (1:Int32))), (.ref a1), (.int (3:Int32)), (.ref b38)])) rfl (by rw [hml]; rfl) (Steps.refl _) (argsL := [(.int (p22 + (1:Int32))), (.int p26)]) (rest := [(.int (3:Int32)), (.ref b38)]) (lenOf pd5 rfl) rfl wf (hb hby d3_37) (fun _ _ => ⟨rfl, e102, (by decide : 7 + 2 ≤ _), (by decide : 36 + 10 ≤ _)⟩))
  obtain ⟨Y104, hS104, hZ104, hown104⟩ := rebS (s := s) (vm0 := T87.vm) hS87 (by rw [e102]; exact (Nat.le_trans (Nat.le_refl _) (Keep.of_wr W92).1)) X104 hSq104 hg104 hZ87 hown87
  obtain ⟨b104_0, b104_1, k104_0, rfl, N104q, K104, f104_1, f104_2, f104_3, f104_4⟩ := hQ104
  have N104 := Fr.app N102 N104q
  have O_K104 : Old Z n0 T104.heap := O_W92.keep K104 all0
  have Kp_K104 : Keep h0 T104.heap [] := Kp_W92.trans K104 all0
  have c_K104 := Cq104
  have C_K104 := C_W92.trans c_K104
  have f105 := ((f88.wr W92).keep K104)
  have ne106 := Exa.ne f105 f104_1 (by decide)
  have f107 := (f94.keep K104 nin0)
  have ne108 := own_neAA f107 f104_4 (by decide)
  obtain ⟨cl109, Ar109, q109, S109, M109, H109, G109⟩ := id f107
  have hin109 : ¬ ((3:Int32) < 0 ∨ cl109.slots.size ≤ ((3:Int32)).toNatClampNeg) := inb_of S109 ⟨by decide, by decide⟩
  have f110 := f93
  obtain ⟨T109, h109, X109, e109, W109, st109⟩ := stR Y104 hx hZ104 rfl Ar109 (j := (3:Int32)) hin109 rfl (Sto.ofV Ar109 q109 f110 (Ins.self f104_1)) (g := (mkF m 40 #[rv a1, rv b38, iv (p22 + (1:Int32)), iv (3:Int32), iv p26] [(.ref b104_0), (.int (3:Int32)), (.ref b38)])) rfl rfl (hb hby d3_40)
  have sf112 := (c_K104.safe ((((((C38.keep K49).wr W54).keep K70).wr W75).keep K87).wr W92).lt (c_W92.safe (((((C38.keep K49).wr W54).keep K70).wr W75).keep K87).lt sf95))
  have O_W109 : Old Z n0 h109 := O_K104.wr W109 g57
  have Kp_W109 : Keep h0 h109 [] := Kp_K104.wr W109 (Or.inr z58)
  have c_W109 := CHr.wr W109 sf112 C_K104.1
  have C_W109 := C_K104.trans c_W109
  have N113 := Fr.snoc X109 N104 g57
  have f111 : Arv Z h109 b38 k38 (.object "java/lang/String") (6:Int32) [(.ref b49_0), (.ref b70_0), (.ref b87_0), (.ref b104_0), .null, .null] .null := Arv.set Ar109 q109 S109 M109 H109 G109 rfl W109 3 rfl (Nat.le_of_ble_eq_true rfl)
  obtain ⟨_, Ar114, _, S114, M114, _, _⟩ := id f111
  have f115 := ((f98.keep K104).wr W109)
  have f116 := ((f99.keep K104 nin0).other W109 (Or.inl ne63))
  have f117 := ((f100.keep K104 nin0).other W109 (Or.inl ne63))
  have f118 := ((f101.keep K104 nin0).other W109 ne66)
  obtain ⟨T119, _, _, X119, hQ119, st119⟩ := cV X109 hx hZ104 hw hown104 (y := y6) 124 rfl 29 rfl 31 rfl 30 rfl 32 rfl 9 rfl (by decide) (W := 0) (own_idx l Z a0 hw [] a1 a4 k6 c7 (p26 + (1:Int32)) p9 h109 n0 O_W109 f115 H10 hc11 f116 f117 f118 H12 hc29) (by decide) (by decide) f115 e109 (g := (mkF m 26 #[rv a1, rv b38, iv (p26 + (1:Int32)), iv (4:Int32), iv p26] [(.int (p26 + (1:Int32))), (.int (44:Int32)), (.ref a1)])) rfl (by rw [hml]; rfl) (argsL := [(.int (44:Int32)), (.int (p26 + (1:Int32)))]) (rest := []) (lenOf pd14 rfl) rfl wf (hb hby d3_26) rfl (by decide) (by decide)
  obtain ⟨rfl, N119q, e119⟩ := hQ119
  have N119 := Fr.app N113 N119q
  obtain ⟨_, _, q121a, _, q121c⟩ := isOf hZ104 e119 f115
  obtain ⟨T121, _, _, X121, hSq121, hg121, Cq121, hQ121, st121⟩ := flH X119 (X119.virtualBackS hx (y := y15) (z := y15) hown104 (mo hZ104 hw 125 rfl) (mo hZ104 hw 73 rfl) (notFace_of_selects (args := #[]) (mo hZ104 hw 75 rfl)) (mo hZ104 hw 75 rfl) (mo hZ104 hw 74 rfl) (by decide) (backOfSH (s := s) (vm0 := T104.vm) (W := 2) (own_substr l Z a0 hw [] a1 a4 k6 c7 (p26 + (1:Int32)) p30 p9 k45 h109 n0 O_W109 f115 f116 f117 f118 H10 hc11 H12 H46 H47 hc120) hZ104 (ow hw 76 rfl) (ow hw 9 rfl) (by decide) (by decide) (own_EW hw) C_W109.1) q121a q121c (g := (mkF m 37 #[rv a1, rv b38, iv (p26 + (1:Int32)), iv (4:Int32), iv p30] [(.int p30), (.int (p26 + (1:Int32))), (.ref a1), (.int (4:Int32)), (.ref b38)])) rfl (by rw [hml]; rfl) (Steps.refl _) (argsL := [(.int (p26 + (1:Int32))), (.int p30)]) (rest := [(.int (4:Int32)), (.ref b38)]) (lenOf pd5 rfl) rfl wf (hb hby d3_37) (fun _ _ => ⟨rfl, e119, (by decide : 9 + 2 ≤ _), (by decide : 46 + 10 ≤ _)⟩))
  obtain ⟨Y121, hS121, hZ121, hown121⟩ := rebS (s := s) (vm0 := T104.vm) hS104 (by rw [e119]; exact (Nat.le_trans (Nat.le_refl _) (Keep.of_wr W109).1)) X121 hSq121 hg121 hZ104 hown104
  obtain ⟨b121_0, b121_1, k121_0, rfl, N121q, K121, f121_1, f121_2, f121_3, f121_4⟩ := hQ121
  have N121 := Fr.app N119 N121q
  have O_K121 : Old Z n0 T121.heap := O_W109.keep K121 all0
  have Kp_K121 : Keep h0 T121.heap [] := Kp_W109.trans K121 all0
  have c_K121 := Cq121
  have C_K121 := C_W109.trans c_K121
  have f122 := ((f105.wr W109).keep K121)
  have ne123 := Exa.ne f122 f121_1 (by decide)
  have f124 := (f111.keep K121 nin0)
  have ne125 := own_neAA f124 f121_4 (by decide)
  obtain ⟨cl126, Ar126, q126, S126, M126, H126, G126⟩ := id f124
  have hin126 : ¬ ((4:Int32) < 0 ∨ cl126.slots.size ≤ ((4:Int32)).toNatClampNeg) := inb_of S126 ⟨by decide, by decide⟩
  have f127 := f110
  obtain ⟨T126, h126, X126, e126, W126, st126⟩ := stR Y121 hx hZ121 rfl Ar126 (j := (4:Int32)) hin126 rfl (Sto.ofV Ar126 q126 f127 (Ins.self f121_1)) (g := (mkF m 40 #[rv a1, rv b38, iv (p26 + (1:Int32)), iv (4:Int32), iv p30] [(.ref b121_0), (.int (4:Int32)), (.ref b38)])) rfl rfl (hb hby d3_40)
  have sf129 := (c_K121.safe ((((((((C38.keep K49).wr W54).keep K70).wr W75).keep K87).wr W92).keep K104).wr W109).lt (c_W109.safe (((((((C38.keep K49).wr W54).keep K70).wr W75).keep K87).wr W92).keep K104).lt sf112))
  have O_W126 : Old Z n0 h126 := O_K121.wr W126 g57
  have Kp_W126 : Keep h0 h126 [] := Kp_K121.wr W126 (Or.inr z58)
  have c_W126 := CHr.wr W126 sf129 C_K121.1
  have C_W126 := C_K121.trans c_W126
  have N130 := Fr.snoc X126 N121 g57
  have f128 : Arv Z h126 b38 k38 (.object "java/lang/String") (6:Int32) [(.ref b49_0), (.ref b70_0), (.ref b87_0), (.ref b104_0), (.ref b121_0), .null] .null := Arv.set Ar126 q126 S126 M126 H126 G126 rfl W126 4 rfl (Nat.le_of_ble_eq_true rfl)
  obtain ⟨_, Ar131, _, S131, M131, _, _⟩ := id f128
  obtain ⟨_, Ar132, _, S132, M132, _, _⟩ := id f128
  have f133 := ((f115.keep K121).wr W126)
  have f134 := ((f116.keep K121 nin0).other W126 (Or.inl ne63))
  have f135 := ((f117.keep K121 nin0).other W126 (Or.inl ne63))
  have f136 := ((f118.keep K121 nin0).other W126 ne66)
  obtain ⟨_, _, q138a, _, q138c⟩ := isOf hZ121 e126 f133
  obtain ⟨T138, _, _, X138, hSq138, hg138, Cq138, hQ138, st138⟩ := flH X126 (X126.virtualBackS hx (y := y14) (z := y14) hown121 (mo hZ121 hw 67 rfl) (mo hZ121 hw 68 rfl) (notFace_of_selects (args := #[]) (mo hZ121 hw 70 rfl)) (mo hZ121 hw 70 rfl) (mo hZ121 hw 69 rfl) (by decide) (backOfSH (s := s) (vm0 := T121.vm) (W := 2) (r14_2 l Z a0 hw [] a1 (p30 + (1:Int32)) a4 k6 c7 p9 k45 h126 n0 O_W126 f133 f134 f135 f136 H10 hc11 H12 H46 H47 hc137) hZ121 (ow hw 71 rfl) (ow hw 9 rfl) (by decide) (by decide) (own_EW hw) C_W126.1) q138a q138c (g := (mkF m 59 #[rv a1, rv b38, iv (p30 + (1:Int32)), iv (5:Int32), iv p30] [(.int (p30 + (1:Int32))), (.ref a1), (.int (5:Int32)), (.ref b38)])) rfl (by rw [hml]; rfl) (Steps.refl _) (argsL := [(.int (p30 + (1:Int32)))]) (rest := [(.int (5:Int32)), (.ref b38)]) (lenOf pd7 rfl) rfl wf (hb hby d3_59) (fun _ _ => ⟨rfl, e126, (by decide : 11 + 2 ≤ _), (by decide : 56 + 10 ≤ _)⟩))
  obtain ⟨Y138, hS138, hZ138, _⟩ := rebS (s := s) (vm0 := T121.vm) hS121 (by rw [e126]; exact (Nat.le_trans (Nat.le_refl _) (Keep.of_wr W126).1)) X138 hSq138 hg138 hZ121 hown121
  obtain ⟨b138_0, b138_1, k138_0, rfl, N138q, K138, f138_1, f138_2, f138_3, f138_4⟩ := hQ138
  have N138 := Fr.app N130 N138q
  have Kp_K138 : Keep h0 T138.heap [] := Kp_W126.trans K138 all0
  have c_K138 := Cq138
  have C_K138 := C_W126.trans c_K138
  have f139 := ((f122.wr W126).keep K138)
  have ne140 := Exa.ne f139 f138_1 (by decide)
  have f141 := (f128.keep K138 nin0)
  have ne142 := own_neAA f141 f138_4 (by decide)
  obtain ⟨cl143, Ar143, q143, S143, M143, H143, G143⟩ := id f141
  have hin143 : ¬ ((5:Int32) < 0 ∨ cl143.slots.size ≤ ((5:Int32)).toNatClampNeg) := inb_of S143 ⟨by decide, by decide⟩
  have f144 := f127
  obtain ⟨_, h143, X143, e143, W143, st143⟩ := stR Y138 hx hZ138 rfl Ar143 (j := (5:Int32)) hin143 rfl (Sto.ofV Ar143 q143 f144 (Ins.self f138_1)) (g := (mkF m 62 #[rv a1, rv b38, iv (p30 + (1:Int32)), iv (5:Int32), iv p30] [(.ref b138_0), (.int (5:Int32)), (.ref b38)])) rfl rfl (hb hby d3_62)
  have sf146 := (c_K138.safe ((((((((((C38.keep K49).wr W54).keep K70).wr W75).keep K87).wr W92).keep K104).wr W109).keep K121).wr W126).lt (c_W126.safe (((((((((C38.keep K49).wr W54).keep K70).wr W75).keep K87).wr W92).keep K104).wr W109).keep K121).lt sf129))
  have Kp_W143 : Keep h0 h143 [] := Kp_K138.wr W143 (Or.inr z58)
  have c_W143 := CHr.wr W143 sf146 C_K138.1
  have C_W143 := C_K138.trans c_W143
  have N147 := Fr.snoc X143 N138 g57
  have f145 : Arv Z h143 b38 k38 (.object "java/lang/String") (6:Int32) [(.ref b49_0), (.ref b70_0), (.ref b87_0), (.ref b104_0), (.ref b121_0), (.ref b138_0)] .null := Arv.set Ar143 q143 S143 M143 H143 G143 rfl W143 5 rfl (Nat.le_of_ble_eq_true rfl)
  have f148 := (((((((((((f49_1.wr W54).keep K70).wr W75).keep K87).wr W92).keep K104).wr W109).keep K121).wr W126).keep K138).wr W143)
  have f149 := (((((((((((f49_3.other W54 (Or.inl (Ne.symm ne51))).keep K70 nin0).other W75 (Or.inl (Ne.symm ne51))).keep K87 nin0).other W92 (Or.inl (Ne.symm ne51))).keep K104 nin0).other W109 (Or.inl (Ne.symm ne51))).keep K121 nin0).other W126 (Or.inl (Ne.symm ne51))).keep K138 nin0).other W143 (Or.inl (Ne.symm ne51)))
  have f150 := (((((((((((f49_2.other W54 (Or.inl (Ne.symm ne51))).keep K70 nin0).other W75 (Or.inl (Ne.symm ne51))).keep K87 nin0).other W92 (Or.inl (Ne.symm ne51))).keep K104 nin0).other W109 (Or.inl (Ne.symm ne51))).keep K121 nin0).other W126 (Or.inl (Ne.symm ne51))).keep K138 nin0).other W143 (Or.inl (Ne.symm ne51)))
  have f151 := (((((((((((f49_4.other W54 (Ne.symm ne53)).keep K70 nin0).other W75 (Ne.symm ne53)).keep K87 nin0).other W92 (Ne.symm ne53)).keep K104 nin0).other W109 (Ne.symm ne53)).keep K121 nin0).other W126 (Ne.symm ne53)).keep K138 nin0).other W143 (Ne.symm ne53))
  have f152 := (((((((((f70_1.wr W75).keep K87).wr W92).keep K104).wr W109).keep K121).wr W126).keep K138).wr W143)
  have f153 := (((((((((f70_3.other W75 (Or.inl (Ne.symm ne72))).keep K87 nin0).other W92 (Or.inl (Ne.symm ne72))).keep K104 nin0).other W109 (Or.inl (Ne.symm ne72))).keep K121 nin0).other W126 (Or.inl (Ne.symm ne72))).keep K138 nin0).other W143 (Or.inl (Ne.symm ne72)))
  have f154 := (((((((((f70_2.other W75 (Or.inl (Ne.symm ne72))).keep K87 nin0).other W92 (Or.inl (Ne.symm ne72))).keep K104 nin0).other W109 (Or.inl (Ne.symm ne72))).keep K121 nin0).other W126 (Or.inl (Ne.symm ne72))).keep K138 nin0).other W143 (Or.inl (Ne.symm ne72)))
  have f155 := (((((((((f70_4.other W75 (Ne.symm ne74)).keep K87 nin0).other W92 (Ne.symm ne74)).keep K104 nin0).other W109 (Ne.symm ne74)).keep K121 nin0).other W126 (Ne.symm ne74)).keep K138 nin0).other W143 (Ne.symm ne74))
  have f156 := (((((((f87_1.wr W92).keep K104).wr W109).keep K121).wr W126).keep K138).wr W143)
  have f157 := (((((((f87_3.other W92 (Or.inl (Ne.symm ne89))).keep K104 nin0).other W109 (Or.inl (Ne.symm ne89))).keep K121 nin0).other W126 (Or.inl (Ne.symm ne89))).keep K138 nin0).other W143 (Or.inl (Ne.symm ne89)))
  have f158 := (((((((f87_2.other W92 (Or.inl (Ne.symm ne89))).keep K104 nin0).other W109 (Or.inl (Ne.symm ne89))).keep K121 nin0).other W126 (Or.inl (Ne.symm ne89))).keep K138 nin0).other W143 (Or.inl (Ne.symm ne89)))
  have f159 := (((((((f87_4.other W92 (Ne.symm ne91)).keep K104 nin0).other W109 (Ne.symm ne91)).keep K121 nin0).other W126 (Ne.symm ne91)).keep K138 nin0).other W143 (Ne.symm ne91))
  have f160 := (((((f104_1.wr W109).keep K121).wr W126).keep K138).wr W143)
  have f161 := (((((f104_3.other W109 (Or.inl (Ne.symm ne106))).keep K121 nin0).other W126 (Or.inl (Ne.symm ne106))).keep K138 nin0).other W143 (Or.inl (Ne.symm ne106)))
  have f162 := (((((f104_2.other W109 (Or.inl (Ne.symm ne106))).keep K121 nin0).other W126 (Or.inl (Ne.symm ne106))).keep K138 nin0).other W143 (Or.inl (Ne.symm ne106)))
  have f163 := (((((f104_4.other W109 (Ne.symm ne108)).keep K121 nin0).other W126 (Ne.symm ne108)).keep K138 nin0).other W143 (Ne.symm ne108))
  have f164 := (((f121_1.wr W126).keep K138).wr W143)
  have f165 := (((f121_3.other W126 (Or.inl (Ne.symm ne123))).keep K138 nin0).other W143 (Or.inl (Ne.symm ne123)))
  have f166 := (((f121_2.other W126 (Or.inl (Ne.symm ne123))).keep K138 nin0).other W143 (Or.inl (Ne.symm ne123)))
  have f167 := (((f121_4.other W126 (Ne.symm ne125)).keep K138 nin0).other W143 (Ne.symm ne125))
  have f168 := (f138_1.wr W143)
  have f169 := (f138_3.other W143 (Or.inl (Ne.symm ne140)))
  have f170 := (f138_2.other W143 (Or.inl (Ne.symm ne140)))
  have f171 := (f138_4.other W143 (Ne.symm ne142))
  refine finH (Q := r3_6Q Z a1 a4 k6 c7 p9 p14 p18 p22 p26 p30 p34 k45 h0 n0) (rm := (rM 6 15 77 95)) (vm := T138.vm) Bd X143 hZ138 (own_EW hw) C_W143 hh e143 hS138 (Nat.le_trans (Nat.le_refl _) (Keep.of_wr W143).1) (some (.ref b38)) nofun ⟨b38, rfl, N147, Kp_W143, z58, own_rows (rs := [b49_0, b70_0, b87_0, b104_0, b121_0, b138_0]) H172 (Nat.le_of_ble_eq_true rfl) f145 ⟨⟨b49_1, k49_0, f148, f150, f149, f151⟩, ⟨b70_1, k70_0, f152, f154, f153, f155⟩, ⟨b87_1, k87_0, f156, f158, f157, f159⟩, ⟨b104_1, k104_0, f160, f162, f161, f163⟩, ⟨b121_1, k121_0, f164, f166, f165, f167⟩, ⟨b138_1, k138_0, f168, f170, f169, f171⟩, trivial⟩⟩ (by decide) (by decide) fun fs hr => ?_
  show St p e below s₁ m 0 #[rv a1, un, un, un, un] [] _
  refine aN X0 hx hby d3_0 rfl rfl ?_
  refine st37 _ ?_
  refine iC X37 hx hby d3_4 ?_
  refine XS.iadd X37.here hx rfl (hb hby d3_5) rfl ?_
  refine st38 _ ?_
  refine XS.astoreN X38.here hx rfl (hb hby d3_9) rfl rfl (l' := #[rv a1, rv b38, un, un, un]) rfl ?_
  refine iC X38 hx hby d3_10 ?_
  refine XS.istoreN X38.here hx rfl (hb hby d3_11) rfl (l' := #[rv a1, rv b38, iv (0:Int32), un, un]) rfl ?_
  refine iC X38 hx hby d3_12 ?_
  refine XS.istoreN X38.here hx rfl (hb hby d3_13) rfl (l' := #[rv a1, rv b38, iv (0:Int32), iv (0:Int32), un]) rfl ?_
  refine iN X38 hx hby d3_14 rfl ?_
  refine aN X38 hx hby d3_15 rfl rfl ?_
  refine X38.arraylength hx (by rw [e38]; exact Ar39.1) (State.isArrayOf_alike hZ.alike Ar39.2.1) (g := (mkF m 16 #[rv a1, rv b38, iv (0:Int32), iv (0:Int32), un] [(.ref b38), (.int (0:Int32))])) rfl rfl (hb hby d3_16) _ ?_
  rw [len_of S39 M39]
  refine iC X38 hx hby d3_17 ?_
  refine XS.isub X38.here hx rfl (hb hby d3_18) rfl ?_
  refine XS.icmpNo X38.here hx rfl (hb hby d3_19) rfl (tlt (by decide : (0:Int32) < (5:Int32))).2.1 ?_
  refine aN X38 hx hby d3_22 rfl rfl ?_
  refine XS.bipush X38.here hx rfl (hb hby d3_23) ?_
  refine iN X38 hx hby d3_25 rfl ?_
  refine st44.trans ?_
  show St p e below T44 m 29 #[rv a1, rv b38, iv (0:Int32), iv (0:Int32), un] [(.int (own_ix c7 (0:Int32)))] _
  rw [H15]
  refine XS.istore X44.here hx rfl (hb hby d3_29) rfl (l' := #[rv a1, rv b38, iv (0:Int32), iv (0:Int32), iv p14]) rfl ?_
  refine aN X44 hx hby d3_31 rfl rfl ?_
  refine iN X44 hx hby d3_32 rfl ?_
  refine aN X44 hx hby d3_33 rfl rfl ?_
  refine iN X44 hx hby d3_34 rfl ?_
  show St p e below T44 m 35 #[rv a1, rv b38, iv (0:Int32), iv (0:Int32), iv p14] [(.int (0:Int32)), (.ref a1), (.int (0:Int32)), (.ref b38)] _
  refine iL X44 hx hby d3_35 rfl ?_
  refine st49.trans ?_
  refine st54 _ ?_
  refine iL X54 hx hby d3_41 rfl ?_
  refine iC X54 hx hby d3_43 ?_
  refine XS.iadd X54.here hx rfl (hb hby d3_44) rfl ?_
  refine XS.istoreN X54.here hx rfl (hb hby d3_45) rfl (l' := #[rv a1, rv b38, iv (p14 + (1:Int32)), iv (0:Int32), iv p14]) rfl ?_
  refine XS.iinc X54.here hx rfl (hb hby d3_46) rfl (l' := #[rv a1, rv b38, iv (p14 + (1:Int32)), iv (1:Int32), iv p14]) rfl ?_
  refine XS.goto X54.here hx rfl (pc0 := 49) (pc' := 14) rfl (hb hby d3_49) (by decide) (by decide) ?_
  refine iN X54 hx hby d3_14 rfl ?_
  refine aN X54 hx hby d3_15 rfl rfl ?_
  refine X54.arraylength hx (by rw [e54]; exact Ar61.1) (State.isArrayOf_alike hZ49.alike Ar61.2.1) (g := (mkF m 16 #[rv a1, rv b38, iv (p14 + (1:Int32)), iv (1:Int32), iv p14] [(.ref b38), (.int (1:Int32))])) rfl rfl (hb hby d3_16) _ ?_
  rw [len_of S61 M61]
  refine iC X54 hx hby d3_17 ?_
  refine XS.isub X54.here hx rfl (hb hby d3_18) rfl ?_
  refine XS.icmpNo X54.here hx rfl (hb hby d3_19) rfl (tlt (by decide : (1:Int32) < (5:Int32))).2.1 ?_
  refine aN X54 hx hby d3_22 rfl rfl ?_
  refine XS.bipush X54.here hx rfl (hb hby d3_23) ?_
  refine iN X54 hx hby d3_25 rfl ?_
  refine st68.trans ?_
  show St p e below T68 m 29 #[rv a1, rv b38, iv (p14 + (1:Int32)), iv (1:Int32), iv p14] [(.int (own_ix c7 (p14 + (1:Int32))))] _
  rw [H19]
  refine XS.istore X68.here hx rfl (hb hby d3_29) rfl (l' := #[rv a1, rv b38, iv (p14 + (1:Int32)), iv (1:Int32), iv p18]) rfl ?_
  refine aN X68 hx hby d3_31 rfl rfl ?_
  refine iN X68 hx hby d3_32 rfl ?_
  refine aN X68 hx hby d3_33 rfl rfl ?_
  refine iN X68 hx hby d3_34 rfl ?_
  refine iL X68 hx hby d3_35 rfl ?_
  show St p e below T68 m 37 #[rv a1, rv b38, iv (p14 + (1:Int32)), iv (1:Int32), iv p18] [(.int p18), (.int (p14 + (1:Int32))), (.ref a1), (.int (1:Int32)), (.ref b38)] _
  refine st70.trans ?_
  refine st75 _ ?_
  refine iL X75 hx hby d3_41 rfl ?_
  refine iC X75 hx hby d3_43 ?_
  refine XS.iadd X75.here hx rfl (hb hby d3_44) rfl ?_
  refine XS.istoreN X75.here hx rfl (hb hby d3_45) rfl (l' := #[rv a1, rv b38, iv (p18 + (1:Int32)), iv (1:Int32), iv p18]) rfl ?_
  refine XS.iinc X75.here hx rfl (hb hby d3_46) rfl (l' := #[rv a1, rv b38, iv (p18 + (1:Int32)), iv (2:Int32), iv p18]) rfl ?_
  refine XS.goto X75.here hx rfl (pc0 := 49) (pc' := 14) rfl (hb hby d3_49) (by decide) (by decide) ?_
  refine iN X75 hx hby d3_14 rfl ?_
  refine aN X75 hx hby d3_15 rfl rfl ?_
  refine X75.arraylength hx (by rw [e75]; exact Ar80.1) (State.isArrayOf_alike hZ70.alike Ar80.2.1) (g := (mkF m 16 #[rv a1, rv b38, iv (p18 + (1:Int32)), iv (2:Int32), iv p18] [(.ref b38), (.int (2:Int32))])) rfl rfl (hb hby d3_16) _ ?_
  rw [len_of S80 M80]
  refine iC X75 hx hby d3_17 ?_
  refine XS.isub X75.here hx rfl (hb hby d3_18) rfl ?_
  refine XS.icmpNo X75.here hx rfl (hb hby d3_19) rfl (tlt (by decide : (2:Int32) < (5:Int32))).2.1 ?_
  refine aN X75 hx hby d3_22 rfl rfl ?_
  refine XS.bipush X75.here hx rfl (hb hby d3_23) ?_
  refine iN X75 hx hby d3_25 rfl ?_
  refine st85.trans ?_
  show St p e below T85 m 29 #[rv a1, rv b38, iv (p18 + (1:Int32)), iv (2:Int32), iv p18] [(.int (own_ix c7 (p18 + (1:Int32))))] _
  rw [H23]
  refine XS.istore X85.here hx rfl (hb hby d3_29) rfl (l' := #[rv a1, rv b38, iv (p18 + (1:Int32)), iv (2:Int32), iv p22]) rfl ?_
  refine aN X85 hx hby d3_31 rfl rfl ?_
  refine iN X85 hx hby d3_32 rfl ?_
  refine aN X85 hx hby d3_33 rfl rfl ?_
  refine iN X85 hx hby d3_34 rfl ?_
  refine iL X85 hx hby d3_35 rfl ?_
  refine st87.trans ?_
  show St p e below T87 m 40 #[rv a1, rv b38, iv (p18 + (1:Int32)), iv (2:Int32), iv p22] [(.ref b87_0), (.int (2:Int32)), (.ref b38)] _
  refine st92 _ ?_
  refine iL X92 hx hby d3_41 rfl ?_
  refine iC X92 hx hby d3_43 ?_
  refine XS.iadd X92.here hx rfl (hb hby d3_44) rfl ?_
  refine XS.istoreN X92.here hx rfl (hb hby d3_45) rfl (l' := #[rv a1, rv b38, iv (p22 + (1:Int32)), iv (2:Int32), iv p22]) rfl ?_
  refine XS.iinc X92.here hx rfl (hb hby d3_46) rfl (l' := #[rv a1, rv b38, iv (p22 + (1:Int32)), iv (3:Int32), iv p22]) rfl ?_
  refine XS.goto X92.here hx rfl (pc0 := 49) (pc' := 14) rfl (hb hby d3_49) (by decide) (by decide) ?_
  refine iN X92 hx hby d3_14 rfl ?_
  refine aN X92 hx hby d3_15 rfl rfl ?_
  refine X92.arraylength hx (by rw [e92]; exact Ar97.1) (State.isArrayOf_alike hZ87.alike Ar97.2.1) (g := (mkF m 16 #[rv a1, rv b38, iv (p22 + (1:Int32)), iv (3:Int32), iv p22] [(.ref b38), (.int (3:Int32))])) rfl rfl (hb hby d3_16) _ ?_
  rw [len_of S97 M97]
  refine iC X92 hx hby d3_17 ?_
  refine XS.isub X92.here hx rfl (hb hby d3_18) rfl ?_
  refine XS.icmpNo X92.here hx rfl (hb hby d3_19) rfl (tlt (by decide : (3:Int32) < (5:Int32))).2.1 ?_
  refine aN X92 hx hby d3_22 rfl rfl ?_
  refine XS.bipush X92.here hx rfl (hb hby d3_23) ?_
  refine iN X92 hx hby d3_25 rfl ?_
  refine st102.trans ?_
  show St p e below T102 m 29 #[rv a1, rv b38, iv (p22 + (1:Int32)), iv (3:Int32), iv p22] [(.int (own_ix c7 (p22 + (1:Int32))))] _
  rw [H27]
  refine XS.istore X102.here hx rfl (hb hby d3_29) rfl (l' := #[rv a1, rv b38, iv (p22 + (1:Int32)), iv (3:Int32), iv p26]) rfl ?_
  refine aN X102 hx hby d3_31 rfl rfl ?_
  refine iN X102 hx hby d3_32 rfl ?_
  refine aN X102 hx hby d3_33 rfl rfl ?_
  refine iN X102 hx hby d3_34 rfl ?_
  refine iL X102 hx hby d3_35 rfl ?_
  refine st104.trans ?_
  refine st109 _ ?_
  show St p e below T109 m 41 #[rv a1, rv b38, iv (p22 + (1:Int32)), iv (3:Int32), iv p26] [] _
  refine iL X109 hx hby d3_41 rfl ?_
  refine iC X109 hx hby d3_43 ?_
  refine XS.iadd X109.here hx rfl (hb hby d3_44) rfl ?_
  refine XS.istoreN X109.here hx rfl (hb hby d3_45) rfl (l' := #[rv a1, rv b38, iv (p26 + (1:Int32)), iv (3:Int32), iv p26]) rfl ?_
  refine XS.iinc X109.here hx rfl (hb hby d3_46) rfl (l' := #[rv a1, rv b38, iv (p26 + (1:Int32)), iv (4:Int32), iv p26]) rfl ?_
  refine XS.goto X109.here hx rfl (pc0 := 49) (pc' := 14) rfl (hb hby d3_49) (by decide) (by decide) ?_
  refine iN X109 hx hby d3_14 rfl ?_
  refine aN X109 hx hby d3_15 rfl rfl ?_
  refine X109.arraylength hx (by rw [e109]; exact Ar114.1) (State.isArrayOf_alike hZ104.alike Ar114.2.1) (g := (mkF m 16 #[rv a1, rv b38, iv (p26 + (1:Int32)), iv (4:Int32), iv p26] [(.ref b38), (.int (4:Int32))])) rfl rfl (hb hby d3_16) _ ?_
  rw [len_of S114 M114]
  refine iC X109 hx hby d3_17 ?_
  refine XS.isub X109.here hx rfl (hb hby d3_18) rfl ?_
  refine XS.icmpNo X109.here hx rfl (hb hby d3_19) rfl (tlt (by decide : (4:Int32) < (5:Int32))).2.1 ?_
  refine aN X109 hx hby d3_22 rfl rfl ?_
  refine XS.bipush X109.here hx rfl (hb hby d3_23) ?_
  refine iN X109 hx hby d3_25 rfl ?_
  refine st119.trans ?_
  show St p e below T119 m 29 #[rv a1, rv b38, iv (p26 + (1:Int32)), iv (4:Int32), iv p26] [(.int (own_ix c7 (p26 + (1:Int32))))] _
  rw [H31]
  refine XS.istore X119.here hx rfl (hb hby d3_29) rfl (l' := #[rv a1, rv b38, iv (p26 + (1:Int32)), iv (4:Int32), iv p30]) rfl ?_
  refine aN X119 hx hby d3_31 rfl rfl ?_
  refine iN X119 hx hby d3_32 rfl ?_
  refine aN X119 hx hby d3_33 rfl rfl ?_
  refine iN X119 hx hby d3_34 rfl ?_
  refine iL X119 hx hby d3_35 rfl ?_
  refine st121.trans ?_
  refine st126 _ ?_
  refine iL X126 hx hby d3_41 rfl ?_
  show St p e below T126 m 43 #[rv a1, rv b38, iv (p26 + (1:Int32)), iv (4:Int32), iv p30] [(.int p30)] _
  refine iC X126 hx hby d3_43 ?_
  refine XS.iadd X126.here hx rfl (hb hby d3_44) rfl ?_
  refine XS.istoreN X126.here hx rfl (hb hby d3_45) rfl (l' := #[rv a1, rv b38, iv (p30 + (1:Int32)), iv (4:Int32), iv p30]) rfl ?_
  refine XS.iinc X126.here hx rfl (hb hby d3_46) rfl (l' := #[rv a1, rv b38, iv (p30 + (1:Int32)), iv (5:Int32), iv p30]) rfl ?_
  refine XS.goto X126.here hx rfl (pc0 := 49) (pc' := 14) rfl (hb hby d3_49) (by decide) (by decide) ?_
  refine iN X126 hx hby d3_14 rfl ?_
  refine aN X126 hx hby d3_15 rfl rfl ?_
  refine X126.arraylength hx (by rw [e126]; exact Ar131.1) (State.isArrayOf_alike hZ121.alike Ar131.2.1) (g := (mkF m 16 #[rv a1, rv b38, iv (p30 + (1:Int32)), iv (5:Int32), iv p30] [(.ref b38), (.int (5:Int32))])) rfl rfl (hb hby d3_16) _ ?_
  rw [len_of S131 M131]
  refine iC X126 hx hby d3_17 ?_
  refine XS.isub X126.here hx rfl (hb hby d3_18) rfl ?_
  refine XS.icmpYes X126.here hx rfl (pc0 := 19) (pc' := 52) rfl (hb hby d3_19) rfl (flt (by decide : ¬ ((5:Int32) < (5:Int32)))).2.1 (by decide) (by decide) ?_
  refine aN X126 hx hby d3_52 rfl rfl ?_
  refine aN X126 hx hby d3_53 rfl rfl ?_
  refine X126.arraylength hx (by rw [e126]; exact Ar132.1) (State.isArrayOf_alike hZ121.alike Ar132.2.1) (g := (mkF m 54 #[rv a1, rv b38, iv (p30 + (1:Int32)), iv (5:Int32), iv p30] [(.ref b38), (.ref b38)])) rfl rfl (hb hby d3_54) _ ?_
  rw [len_of S132 M132]
  refine iC X126 hx hby d3_55 ?_
  refine XS.isub X126.here hx rfl (hb hby d3_56) rfl ?_
  refine aN X126 hx hby d3_57 rfl rfl ?_
  refine iN X126 hx hby d3_58 rfl ?_
  refine st138.trans ?_
  refine st143 _ ?_
  refine aN X143 hx hby d3_63 rfl rfl ?_
  exact retA X143 hx Bd.returns rfl rfl (hb hby d3_64) hr
def r3_7Q (Z : State) (a1 a4 : Addr) (k6 : ClassId) (c7 : List Int32) (p9 p14 p18 p22 p26 p30 p34 p38:Int32) (k49 : Value) (h0 : Heap) (n0 : Nat) : QT := fun v h L => own_fldQ Z c7 h0 n0 v h L
theorem r3_7 (l : Launch) (Z : State) (a0 : Array Value) (hw : HW a0 Z) (ws : List Jvm.Cond) (a1 a4 : Addr) (k6 : ClassId) (c7 : List Int32) (p9 p14 p18 p22 p26 p30 p34 p38:Int32) (k49 : Value) (h0 : Heap) (n0 : Nat) (O0 : Old Z n0 h0) (H2 : xE1 Z h0 a1) (H3 : xF2 Z h0 a1 (.int (0:Int32))) (H5 : xF3 Z h0 a1 (.ref a4)) (H8 : Arv Z h0 a4 k6 .byte (own_tn c7) (own_tb c7) (.int (0:Int32))) (H10 : Sta Z Z.heap "java/lang/String" "COMPACT_STRINGS" "Z" (.int p9)) (hc11 : ¬ (p9 = (0:Int32))) (H12 : own_GT c7) (hc13 : own_po c7 (0:Int32)) (H15 : (own_ix c7 (0:Int32)) = p14) (hc16 : ¬ (p14 < (0:Int32))) (hc17 : own_po c7 (p14 + (1:Int32))) (H19 : (own_ix c7 (p14 + (1:Int32))) = p18) (hc20 : ¬ (p18 < (0:Int32))) (hc21 : own_po c7 (p18 + (1:Int32))) (H23 : (own_ix c7 (p18 + (1:Int32))) = p22) (hc24 : ¬ (p22 < (0:Int32))) (hc25 : own_po c7 (p22 + (1:Int32))) (H27 : (own_ix c7 (p22 + (1:Int32))) = p26) (hc28 : ¬ (p26 < (0:Int32))) (hc29 : own_po c7 (p26 + (1:Int32))) (H31 : (own_ix c7 (p26 + (1:Int32))) = p30) (hc32 : ¬ (p30 < (0:Int32))) (hc33 : own_po c7 (p30 + (1:Int32))) (H35 : (own_ix c7 (p30 + (1:Int32))) = p34) (hc36 : ¬ (p34 < (0:Int32))) (hc37 : own_po c7 (p34 + (1:Int32))) (H39 : (own_ix c7 (p34 + (1:Int32))) = p38) (hc40 : p38 < (0:Int32)) (H50 : Sta Z Z.heap "jdk/internal/util/Preconditions" "SIOOBE_FORMATTER" "Ljava/util/function/BiFunction;" k49) (H51 : k49.isRef = true) (hc52 : own_rng c7 (0:Int32) p14) (hc73 : own_rng c7 (p14 + (1:Int32)) p18) (hc90 : own_rng c7 (p18 + (1:Int32)) p22) (hc107 : own_rng c7 (p22 + (1:Int32)) p26) (hc124 : own_rng c7 (p26 + (1:Int32)) p30) (hc141 : own_rng c7 (p30 + (1:Int32)) p34) (hc158 : own_rng c7 (p34 + (1:Int32)) (own_tn c7)) (H197 : own_sp c7 = [(own_sub c7 (0:Int32) p14), (own_sub c7 (p14 + (1:Int32)) p18), (own_sub c7 (p18 + (1:Int32)) p22), (own_sub c7 (p22 + (1:Int32)) p26), (own_sub c7 (p26 + (1:Int32)) p30), (own_sub c7 (p30 + (1:Int32)) p34), (own_sub c7 (p34 + (1:Int32)) (own_tn c7))]) :
    MFH l y3 cP22_2 5 (some (.array (.object "java/lang/String"))) ws (rM 6 15 77 95) Z #[(.ref a1)] h0 (r3_7Q Z a1 a4 k6 c7 p9 p14 p18 p22 p26 p30 p34 p38 k49 h0 n0) := by
  refine own_inH (pq pn1) #[rv a1, un, un, un, un] (fun _ => by first | (simp [entryFrame, mkF, argsToLocals, Value.category]; done) | rfl) ?_
  intro p e s m below meth c s₁ Bd hx hby hml hown hnm hZ hh C0 e0 X0
  have N0 := Fr.nil n0
  obtain ⟨_, _, _, X41, hQ41, st41⟩ := cS X0 hx hZ hw hown (y := y4) 20 rfl 21 rfl 18 rfl 22 rfl (by decide) (W := 0) (r4_7 l Z a0 hw [] a1 a4 k6 c7 p9 p14 p18 p22 p26 p30 p34 p38 h0 n0 O0 H2 H3 H5 H8 H10 hc11 H12 hc13 H15 hc16 hc17 H19 hc20 hc21 H23 hc24 hc25 H27 hc28 hc29 H31 hc32 hc33 H35 hc36 hc37 H39 hc40) (by decide) (by decide) e0 (g := (mkF m 1 #[rv a1, un, un, un, un] [(.ref a1)])) rfl (by rw [hml]; rfl) (argsL := [(.ref a1)]) (rest := []) (lenOf pd6 rfl) rfl wf (hb hby d3_1) rfl (by decide) (by decide)
  obtain ⟨rfl, N41q, e41⟩ := hQ41
  have N41 := Fr.app N0 N41q
  obtain ⟨_, h42, k42, X42, e42, E42, A42, C42, Ov42, st42⟩ := newRE X41 hx hZ hown (ow hw 65 rfl) (ow hw 66 rfl) e41 (g := (mkF m 6 #[rv a1, un, un, un, un] [(.int (7:Int32))])) rfl (hb hby d3_6) rfl (by decide) (cap := 7) (by decide) (by decide) (by decide) (by decide) (ad := "[Ljava/lang/String;") (by decide)
  obtain ⟨b42, g42⟩ : ∃ z, z = h0.size := ⟨_, rfl⟩
  rw [← g42] at A42 C42 st42
  have O_E42 : Old Z n0 h42 := O0.ext E42
  have Kp_E42 : Keep h0 h42 [] := (Keep.refl h0 []).ext E42
  have c_E42 := CHr.ext E42 C0.1
  have C_E42 := C0.trans c_E42
  have V42 : Arv Z h42 b42 k42 (.object "java/lang/String") (7:Int32) [.null, .null, .null, .null, .null, .null, .null] .null := (Arv.new A42 (by decide)).pad (pad_rep [] .null 7)
  obtain ⟨_, Ar43, _, S43, M43, _, _⟩ := id V42
  have f44 := (H2.ext E42)
  have f45 := (H3.ext E42)
  have f46 := (H5.ext E42)
  have f47 := (H8.ext E42)
  obtain ⟨T48, _, _, X48, hQ48, st48⟩ := cV X42 hx hZ hw hown (y := y6) 124 rfl 29 rfl 31 rfl 30 rfl 32 rfl 9 rfl (by decide) (W := 0) (own_idx l Z a0 hw [] a1 a4 k6 c7 (0:Int32) p9 h42 n0 O_E42 f44 H10 hc11 f45 f46 f47 H12 hc13) (by decide) (by decide) f44 e42 (g := (mkF m 26 #[rv a1, rv b42, iv (0:Int32), iv (0:Int32), un] [(.int (0:Int32)), (.int (44:Int32)), (.ref a1)])) rfl (by rw [hml]; rfl) (argsL := [(.int (44:Int32)), (.int (0:Int32))]) (rest := []) (lenOf pd14 rfl) rfl wf (hb hby d3_26) rfl (by decide) (by decide)
  obtain ⟨rfl, N48q, e48⟩ := hQ48
  have N48 := Fr.app N41 N48q
  obtain ⟨_, _, q53a, _, q53c⟩ := isOf hZ e48 f44
  obtain ⟨T53, _, _, X53, hSq53, hg53, Cq53, hQ53, st53⟩ := flH X48 (X48.virtualBackS hx (y := y15) (z := y15) hown (mo hZ hw 125 rfl) (mo hZ hw 73 rfl) (notFace_of_selects (args := #[]) (mo hZ hw 75 rfl)) (mo hZ hw 75 rfl) (mo hZ hw 74 rfl) (by decide) (backOfSH (s := s) (vm0 := s.vm) (W := 2) (own_substr l Z a0 hw [] a1 a4 k6 c7 (0:Int32) p14 p9 k49 h42 n0 O_E42 f44 f45 f46 f47 H10 hc11 H12 H50 H51 hc52) hZ (ow hw 76 rfl) (ow hw 9 rfl) (by decide) (by decide) (own_EW hw) C_E42.1) q53a q53c (g := (mkF m 37 #[rv a1, rv b42, iv (0:Int32), iv (0:Int32), iv p14] [(.int p14), (.int (0:Int32)), (.ref a1), (.int (0:Int32)), (.ref b42)])) rfl (by rw [hml]; rfl) (Steps.refl _) (argsL := [(.int (0:Int32)), (.int p14)]) (rest := [(.int (0:Int32)), (.ref b42)]) (lenOf pd5 rfl) rfl wf (hb hby d3_37) (fun _ _ => ⟨rfl, e48, (by decide : 1 + 2 ≤ _), (by decide : 7 + 10 ≤ _)⟩))
  obtain ⟨Y53, hS53, hZ53, hown53⟩ := rebS (s := s) (vm0 := s.vm) (State.WarmedH.since (State.WarmedH.refl s) 0) (by rw [e48]; exact (Nat.zero_le _)) X53 hSq53 hg53 hZ hown
  obtain ⟨b53_0, b53_1, k53_0, rfl, N53q, K53, f53_1, f53_2, f53_3, f53_4⟩ := hQ53
  have N53 := Fr.app N48 N53q
  have O_K53 : Old Z n0 T53.heap := O_E42.keep K53 all0
  have Kp_K53 : Keep h0 T53.heap [] := Kp_E42.trans K53 all0
  have c_K53 := Cq53
  have C_K53 := C_E42.trans c_K53
  have f54 := (C42.keep K53)
  have ne55 := Exa.ne f54 f53_1 (by decide)
  have f56 := (V42.keep K53 nin0)
  have ne57 := own_neAA f56 f53_4 (by decide)
  obtain ⟨cl58, Ar58, q58, S58, M58, H58, G58⟩ := id f56
  have hin58 : ¬ ((0:Int32) < 0 ∨ cl58.slots.size ≤ ((0:Int32)).toNatClampNeg) := inb_of S58 ⟨by decide, by decide⟩
  have f59 := Ov42
  obtain ⟨_, h58, X58, e58, W58, st58⟩ := stR Y53 hx hZ53 rfl Ar58 (j := (0:Int32)) hin58 rfl (Sto.ofV Ar58 q58 f59 (Ins.self f53_1)) (g := (mkF m 40 #[rv a1, rv b42, iv (0:Int32), iv (0:Int32), iv p14] [(.ref b53_0), (.int (0:Int32)), (.ref b42)])) rfl rfl (hb hby d3_40)
  have g61 : n0 ≤ b42 := Nat.le_trans (Nat.le_trans (Nat.le_of_eq O0.1.symm) O0.2.1) (Nat.le_of_eq g42.symm)
  have z62 : h0.size ≤ b42 := Nat.le_trans (Keep.refl h0 []).1 (Nat.le_of_eq g42.symm)
  have sf63 := (c_K53.safe C42.lt (Safe.ext E42 C0.1 (Safe.new (Nat.le_of_eq g42.symm))))
  have O_W58 : Old Z n0 h58 := O_K53.wr W58 g61
  have Kp_W58 : Keep h0 h58 [] := Kp_K53.wr W58 (Or.inr z62)
  have c_W58 := CHr.wr W58 sf63 C_K53.1
  have C_W58 := C_K53.trans c_W58
  have N64 := Fr.snoc X58 N53 g61
  have f60 : Arv Z h58 b42 k42 (.object "java/lang/String") (7:Int32) [(.ref b53_0), .null, .null, .null, .null, .null, .null] .null := Arv.set Ar58 q58 S58 M58 H58 G58 rfl W58 0 rfl (Nat.le_of_ble_eq_true rfl)
  obtain ⟨_, Ar65, _, S65, M65, _, _⟩ := id f60
  have f66 := ((f44.keep K53).wr W58)
  have ne67 : a1 ≠ b42 := Nat.ne_of_lt (Nat.lt_of_lt_of_le H2.lt (Nat.le_of_eq g42.symm))
  have f68 := ((f45.keep K53 nin0).other W58 (Or.inl ne67))
  have f69 := ((f46.keep K53 nin0).other W58 (Or.inl ne67))
  have ne70 : a4 ≠ b42 := Nat.ne_of_lt (Nat.lt_of_lt_of_le H8.lt (Nat.le_of_eq g42.symm))
  have f71 := ((f47.keep K53 nin0).other W58 ne70)
  obtain ⟨T72, _, _, X72, hQ72, st72⟩ := cV X58 hx hZ53 hw hown53 (y := y6) 124 rfl 29 rfl 31 rfl 30 rfl 32 rfl 9 rfl (by decide) (W := 0) (own_idx l Z a0 hw [] a1 a4 k6 c7 (p14 + (1:Int32)) p9 h58 n0 O_W58 f66 H10 hc11 f68 f69 f71 H12 hc17) (by decide) (by decide) f66 e58 (g := (mkF m 26 #[rv a1, rv b42, iv (p14 + (1:Int32)), iv (1:Int32), iv p14] [(.int (p14 + (1:Int32))), (.int (44:Int32)), (.ref a1)])) rfl (by rw [hml]; rfl) (argsL := [(.int (44:Int32)), (.int (p14 + (1:Int32)))]) (rest := []) (lenOf pd14 rfl) rfl wf (hb hby d3_26) rfl (by decide) (by decide)
  obtain ⟨rfl, N72q, e72⟩ := hQ72
  have N72 := Fr.app N64 N72q
  obtain ⟨_, _, q74a, _, q74c⟩ := isOf hZ53 e72 f66
  obtain ⟨T74, _, _, X74, hSq74, hg74, Cq74, hQ74, st74⟩ := flH X72 (X72.virtualBackS hx (y := y15) (z := y15) hown53 (mo hZ53 hw 125 rfl) (mo hZ53 hw 73 rfl) (notFace_of_selects (args := #[]) (mo hZ53 hw 75 rfl)) (mo hZ53 hw 75 rfl) (mo hZ53 hw 74 rfl) (by decide) (backOfSH (s := s) (vm0 := T53.vm) (W := 2) (own_substr l Z a0 hw [] a1 a4 k6 c7 (p14 + (1:Int32)) p18 p9 k49 h58 n0 O_W58 f66 f68 f69 f71 H10 hc11 H12 H50 H51 hc73) hZ53 (ow hw 76 rfl) (ow hw 9 rfl) (by decide) (by decide) (own_EW hw) C_W58.1) q74a q74c (g := (mkF m 37 #[rv a1, rv b42, iv (p14 + (1:Int32)), iv (1:Int32), iv p18] [(.int p18), (.int (p14 + (1:Int32))), (.ref a1), (.int (1:Int32)), (.ref b42)])) rfl (by rw [hml]; rfl) (Steps.refl _) (argsL := [(.int (p14 + (1:Int32))), (.int p18)]) (rest := [(.int (1:Int32)), (.ref b42)]) (lenOf pd5 rfl) rfl wf (hb hby d3_37) (fun _ _ => ⟨rfl, e72, (by decide : 3 + 2 ≤ _), (by decide : 17 + 10 ≤ _)⟩))
  obtain ⟨Y74, hS74, hZ74, hown74⟩ := rebS (s := s) (vm0 := T53.vm) hS53 (by rw [e72]; exact (Nat.le_trans (Nat.le_refl _) (Keep.of_wr W58).1)) X74 hSq74 hg74 hZ53 hown53
  obtain ⟨b74_0, b74_1, k74_0, rfl, N74q, K74, f74_1, f74_2, f74_3, f74_4⟩ := hQ74
  have N74 := Fr.app N72 N74q
  have O_K74 : Old Z n0 T74.heap := O_W58.keep K74 all0
  have Kp_K74 : Keep h0 T74.heap [] := Kp_W58.trans K74 all0
  have c_K74 := Cq74
  have C_K74 := C_W58.trans c_K74
  have f75 := ((f54.wr W58).keep K74)
  have ne76 := Exa.ne f75 f74_1 (by decide)
  have f77 := (f60.keep K74 nin0)
  have ne78 := own_neAA f77 f74_4 (by decide)
  obtain ⟨cl79, Ar79, q79, S79, M79, H79, G79⟩ := id f77
  have hin79 : ¬ ((1:Int32) < 0 ∨ cl79.slots.size ≤ ((1:Int32)).toNatClampNeg) := inb_of S79 ⟨by decide, by decide⟩
  have f80 := f59
  obtain ⟨_, h79, X79, e79, W79, st79⟩ := stR Y74 hx hZ74 rfl Ar79 (j := (1:Int32)) hin79 rfl (Sto.ofV Ar79 q79 f80 (Ins.self f74_1)) (g := (mkF m 40 #[rv a1, rv b42, iv (p14 + (1:Int32)), iv (1:Int32), iv p18] [(.ref b74_0), (.int (1:Int32)), (.ref b42)])) rfl rfl (hb hby d3_40)
  have sf82 := (c_K74.safe ((C42.keep K53).wr W58).lt (c_W58.safe (C42.keep K53).lt sf63))
  have O_W79 : Old Z n0 h79 := O_K74.wr W79 g61
  have Kp_W79 : Keep h0 h79 [] := Kp_K74.wr W79 (Or.inr z62)
  have c_W79 := CHr.wr W79 sf82 C_K74.1
  have C_W79 := C_K74.trans c_W79
  have N83 := Fr.snoc X79 N74 g61
  have f81 : Arv Z h79 b42 k42 (.object "java/lang/String") (7:Int32) [(.ref b53_0), (.ref b74_0), .null, .null, .null, .null, .null] .null := Arv.set Ar79 q79 S79 M79 H79 G79 rfl W79 1 rfl (Nat.le_of_ble_eq_true rfl)
  obtain ⟨_, Ar84, _, S84, M84, _, _⟩ := id f81
  have f85 := ((f66.keep K74).wr W79)
  have f86 := ((f68.keep K74 nin0).other W79 (Or.inl ne67))
  have f87 := ((f69.keep K74 nin0).other W79 (Or.inl ne67))
  have f88 := ((f71.keep K74 nin0).other W79 ne70)
  obtain ⟨T89, _, _, X89, hQ89, st89⟩ := cV X79 hx hZ74 hw hown74 (y := y6) 124 rfl 29 rfl 31 rfl 30 rfl 32 rfl 9 rfl (by decide) (W := 0) (own_idx l Z a0 hw [] a1 a4 k6 c7 (p18 + (1:Int32)) p9 h79 n0 O_W79 f85 H10 hc11 f86 f87 f88 H12 hc21) (by decide) (by decide) f85 e79 (g := (mkF m 26 #[rv a1, rv b42, iv (p18 + (1:Int32)), iv (2:Int32), iv p18] [(.int (p18 + (1:Int32))), (.int (44:Int32)), (.ref a1)])) rfl (by rw [hml]; rfl) (argsL := [(.int (44:Int32)), (.int (p18 + (1:Int32)))]) (rest := []) (lenOf pd14 rfl) rfl wf (hb hby d3_26) rfl (by decide) (by decide)
  obtain ⟨rfl, N89q, e89⟩ := hQ89
  have N89 := Fr.app N83 N89q
  obtain ⟨_, _, q91a, _, q91c⟩ := isOf hZ74 e89 f85
  obtain ⟨T91, _, _, X91, hSq91, hg91, Cq91, hQ91, st91⟩ := flH X89 (X89.virtualBackS hx (y := y15) (z := y15) hown74 (mo hZ74 hw 125 rfl) (mo hZ74 hw 73 rfl) (notFace_of_selects (args := #[]) (mo hZ74 hw 75 rfl)) (mo hZ74 hw 75 rfl) (mo hZ74 hw 74 rfl) (by decide) (backOfSH (s := s) (vm0 := T74.vm) (W := 2) (own_substr l Z a0 hw [] a1 a4 k6 c7 (p18 + (1:Int32)) p22 p9 k49 h79 n0 O_W79 f85 f86 f87 f88 H10 hc11 H12 H50 H51 hc90) hZ74 (ow hw 76 rfl) (ow hw 9 rfl) (by decide) (by decide) (own_EW hw) C_W79.1) q91a q91c (g := (mkF m 37 #[rv a1, rv b42, iv (p18 + (1:Int32)), iv (2:Int32), iv p22] [(.int p22), (.int (p18 + (1:Int32))), (.ref a1), (.int (2:Int32)), (.ref b42)])) rfl (by rw [hml]; rfl) (Steps.refl _) (argsL := [(.int (p18 + (1:Int32))), (.int p22)]) (rest := [(.int (2:Int32)), (.ref b42)]) (lenOf pd5 rfl) rfl wf (hb hby d3_37) (fun _ _ => ⟨rfl, e89, (by decide : 5 + 2 ≤ _), (by decide : 27 + 10 ≤ _)⟩))
  obtain ⟨Y91, hS91, hZ91, hown91⟩ := rebS (s := s) (vm0 := T74.vm) hS74 (by rw [e89]; exact (Nat.le_trans (Nat.le_refl _) (Keep.of_wr W79).1)) X91 hSq91 hg91 hZ74 hown74
  obtain ⟨b91_0, b91_1, k91_0, rfl, N91q, K91, f91_1, f91_2, f91_3, f91_4⟩ := hQ91
  have N91 := Fr.app N89 N91q
  have O_K91 : Old Z n0 T91.heap := O_W79.keep K91 all0
  have Kp_K91 : Keep h0 T91.heap [] := Kp_W79.trans K91 all0
  have c_K91 := Cq91
  have C_K91 := C_W79.trans c_K91
  have f92 := ((f75.wr W79).keep K91)
  have ne93 := Exa.ne f92 f91_1 (by decide)
  have f94 := (f81.keep K91 nin0)
  have ne95 := own_neAA f94 f91_4 (by decide)
  obtain ⟨cl96, Ar96, q96, S96, M96, H96, G96⟩ := id f94
  have hin96 : ¬ ((2:Int32) < 0 ∨ cl96.slots.size ≤ ((2:Int32)).toNatClampNeg) := inb_of S96 ⟨by decide, by decide⟩
  have f97 := f80
  obtain ⟨_, h96, X96, e96, W96, st96⟩ := stR Y91 hx hZ91 rfl Ar96 (j := (2:Int32)) hin96 rfl (Sto.ofV Ar96 q96 f97 (Ins.self f91_1)) (g := (mkF m 40 #[rv a1, rv b42, iv (p18 + (1:Int32)), iv (2:Int32), iv p22] [(.ref b91_0), (.int (2:Int32)), (.ref b42)])) rfl rfl (hb hby d3_40)
  have sf99 := (c_K91.safe ((((C42.keep K53).wr W58).keep K74).wr W79).lt (c_W79.safe (((C42.keep K53).wr W58).keep K74).lt sf82))
  have O_W96 : Old Z n0 h96 := O_K91.wr W96 g61
  have Kp_W96 : Keep h0 h96 [] := Kp_K91.wr W96 (Or.inr z62)
  have c_W96 := CHr.wr W96 sf99 C_K91.1
  have C_W96 := C_K91.trans c_W96
  have N100 := Fr.snoc X96 N91 g61
  have f98 : Arv Z h96 b42 k42 (.object "java/lang/String") (7:Int32) [(.ref b53_0), (.ref b74_0), (.ref b91_0), .null, .null, .null, .null] .null := Arv.set Ar96 q96 S96 M96 H96 G96 rfl W96 2 rfl (Nat.le_of_ble_eq_true rfl)
  obtain ⟨_, Ar101, _, S101, M101, _, _⟩ := id f98
  have f102 := ((f85.keep K91).wr W96)
  have f103 := ((f86.keep K91 nin0).other W96 (Or.inl ne67))
  have f104 := ((f87.keep K91 nin0).other W96 (Or.inl ne67))
  have f105 := ((f88.keep K91 nin0).other W96 ne70)
  obtain ⟨T106, _, _, X106, hQ106, st106⟩ := cV X96 hx hZ91 hw hown91 (y := y6) 124 rfl 29 rfl 31 rfl 30 rfl 32 rfl 9 rfl (by decide) (W := 0) (own_idx l Z a0 hw [] a1 a4 k6 c7 (p22 + (1:Int32)) p9 h96 n0 O_W96 f102 H10 hc11 f103 f104 f105 H12 hc25) (by decide) (by decide) f102 e96 (g := (mkF m 26 #[rv a1, rv b42, iv (p22 + (1:Int32)), iv (3:Int32), iv p22] [(.int (p22 + (1:Int32))), (.int (44:Int32)), (.ref a1)])) rfl (by rw [hml]; rfl) (argsL := [(.int (44:Int32)), (.int (p22 + (1:Int32)))]) (rest := []) (lenOf pd14 rfl) rfl wf (hb hby d3_26) rfl (by decide) (by decide)
  obtain ⟨rfl, N106q, e106⟩ := hQ106
  have N106 := Fr.app N100 N106q
  obtain ⟨_, _, q108a, _, q108c⟩ := isOf hZ91 e106 f102
  obtain ⟨T108, _, _, X108, hSq108, hg108, Cq108, hQ108, st108⟩ := flH X106 (X106.virtualBackS hx (y := y15) (z := y15) hown91 (mo hZ91 hw 125 rfl) (mo hZ91 hw 73 rfl) (notFace_of_selects (args := #[]) (mo hZ91 hw 75 rfl)) (mo hZ91 hw 75 rfl) (mo hZ91 hw 74 rfl) (by decide) (backOfSH (s := s) (vm0 := T91.vm) (W := 2) (own_substr l Z a0 hw [] a1 a4 k6 c7 (p22 + (1:Int32)) p26 p9 k49 h96 n0 O_W96 f102 f103 f104 f105 H10 hc11 H12 H50 H51 hc107) hZ91 (ow hw 76 rfl) (ow hw 9 rfl) (by decide) (by decide) (own_EW hw) C_W96.1) q108a q108c (g := (mkF m 37 #[rv a1, rv b42, iv (p22 + (1:Int32)), iv (3:Int32), iv p26] [(.int p26), (.int (p22 + (1:Int32))), (.ref a1), (.int (3:Int32)), (.ref b42)])) rfl (by rw [hml]; rfl) (Steps.refl _) (argsL := [(.int (p22 + (1:Int32))), (.int p26)]) (rest := [(.int (3:Int32)), (.ref b42)]) (lenOf pd5 rfl) rfl wf (hb hby d3_37) (fun _ _ => ⟨rfl, e106, (by decide : 7 + 2 ≤ _), (by decide : 37 + 10 ≤ _)⟩))
  obtain ⟨Y108, hS108, hZ108, hown108⟩ := rebS (s := s) (vm0 := T91.vm) hS91 (by rw [e106]; exact (Nat.le_trans (Nat.le_refl _) (Keep.of_wr W96).1)) X108 hSq108 hg108 hZ91 hown91
  obtain ⟨b108_0, b108_1, k108_0, rfl, N108q, K108, f108_1, f108_2, f108_3, f108_4⟩ := hQ108
  have N108 := Fr.app N106 N108q
  have O_K108 : Old Z n0 T108.heap := O_W96.keep K108 all0
  have Kp_K108 : Keep h0 T108.heap [] := Kp_W96.trans K108 all0
  have c_K108 := Cq108
  have C_K108 := C_W96.trans c_K108
  have f109 := ((f92.wr W96).keep K108)
  have ne110 := Exa.ne f109 f108_1 (by decide)
  have f111 := (f98.keep K108 nin0)
  have ne112 := own_neAA f111 f108_4 (by decide)
  obtain ⟨cl113, Ar113, q113, S113, M113, H113, G113⟩ := id f111
  have hin113 : ¬ ((3:Int32) < 0 ∨ cl113.slots.size ≤ ((3:Int32)).toNatClampNeg) := inb_of S113 ⟨by decide, by decide⟩
  have f114 := f97
  obtain ⟨T113, h113, X113, e113, W113, st113⟩ := stR Y108 hx hZ108 rfl Ar113 (j := (3:Int32)) hin113 rfl (Sto.ofV Ar113 q113 f114 (Ins.self f108_1)) (g := (mkF m 40 #[rv a1, rv b42, iv (p22 + (1:Int32)), iv (3:Int32), iv p26] [(.ref b108_0), (.int (3:Int32)), (.ref b42)])) rfl rfl (hb hby d3_40)
  have sf116 := (c_K108.safe ((((((C42.keep K53).wr W58).keep K74).wr W79).keep K91).wr W96).lt (c_W96.safe (((((C42.keep K53).wr W58).keep K74).wr W79).keep K91).lt sf99))
  have O_W113 : Old Z n0 h113 := O_K108.wr W113 g61
  have Kp_W113 : Keep h0 h113 [] := Kp_K108.wr W113 (Or.inr z62)
  have c_W113 := CHr.wr W113 sf116 C_K108.1
  have C_W113 := C_K108.trans c_W113
  have N117 := Fr.snoc X113 N108 g61
  have f115 : Arv Z h113 b42 k42 (.object "java/lang/String") (7:Int32) [(.ref b53_0), (.ref b74_0), (.ref b91_0), (.ref b108_0), .null, .null, .null] .null := Arv.set Ar113 q113 S113 M113 H113 G113 rfl W113 3 rfl (Nat.le_of_ble_eq_true rfl)
  obtain ⟨_, Ar118, _, S118, M118, _, _⟩ := id f115
  have f119 := ((f102.keep K108).wr W113)
  have f120 := ((f103.keep K108 nin0).other W113 (Or.inl ne67))
  have f121 := ((f104.keep K108 nin0).other W113 (Or.inl ne67))
  have f122 := ((f105.keep K108 nin0).other W113 ne70)
  obtain ⟨T123, _, _, X123, hQ123, st123⟩ := cV X113 hx hZ108 hw hown108 (y := y6) 124 rfl 29 rfl 31 rfl 30 rfl 32 rfl 9 rfl (by decide) (W := 0) (own_idx l Z a0 hw [] a1 a4 k6 c7 (p26 + (1:Int32)) p9 h113 n0 O_W113 f119 H10 hc11 f120 f121 f122 H12 hc29) (by decide) (by decide) f119 e113 (g := (mkF m 26 #[rv a1, rv b42, iv (p26 + (1:Int32)), iv (4:Int32), iv p26] [(.int (p26 + (1:Int32))), (.int (44:Int32)), (.ref a1)])) rfl (by rw [hml]; rfl) (argsL := [(.int (44:Int32)), (.int (p26 + (1:Int32)))]) (rest := []) (lenOf pd14 rfl) rfl wf (hb hby d3_26) rfl (by decide) (by decide)
  obtain ⟨rfl, N123q, e123⟩ := hQ123
  have N123 := Fr.app N117 N123q
  obtain ⟨_, _, q125a, _, q125c⟩ := isOf hZ108 e123 f119
  obtain ⟨T125, _, _, X125, hSq125, hg125, Cq125, hQ125, st125⟩ := flH X123 (X123.virtualBackS hx (y := y15) (z := y15) hown108 (mo hZ108 hw 125 rfl) (mo hZ108 hw 73 rfl) (notFace_of_selects (args := #[]) (mo hZ108 hw 75 rfl)) (mo hZ108 hw 75 rfl) (mo hZ108 hw 74 rfl) (by decide) (backOfSH (s := s) (vm0 := T108.vm) (W := 2) (own_substr l Z a0 hw [] a1 a4 k6 c7 (p26 + (1:Int32)) p30 p9 k49 h113 n0 O_W113 f119 f120 f121 f122 H10 hc11 H12 H50 H51 hc124) hZ108 (ow hw 76 rfl) (ow hw 9 rfl) (by decide) (by decide) (own_EW hw) C_W113.1) q125a q125c (g := (mkF m 37 #[rv a1, rv b42, iv (p26 + (1:Int32)), iv (4:Int32), iv p30] [(.int p30), (.int (p26 + (1:Int32))), (.ref a1), (.int (4:Int32)), (.ref b42)])) rfl (by rw [hml]; rfl) (Steps.refl _) (argsL := [(.int (p26 + (1:Int32))), (.int p30)]) (rest := [(.int (4:Int32)), (.ref b42)]) (lenOf pd5 rfl) rfl wf (hb hby d3_37) (fun _ _ => ⟨rfl, e123, (by decide : 9 + 2 ≤ _), (by decide : 47 + 10 ≤ _)⟩))
  obtain ⟨Y125, hS125, hZ125, hown125⟩ := rebS (s := s) (vm0 := T108.vm) hS108 (by rw [e123]; exact (Nat.le_trans (Nat.le_refl _) (Keep.of_wr W113).1)) X125 hSq125 hg125 hZ108 hown108
  obtain ⟨b125_0, b125_1, k125_0, rfl, N125q, K125, f125_1, f125_2, f125_3, f125_4⟩ := hQ125
  have N125 := Fr.app N123 N125q
  have O_K125 : Old Z n0 T125.heap := O_W113.keep K125 all0
  have Kp_K125 : Keep h0 T125.heap [] := Kp_W113.trans K125 all0
  have c_K125 := Cq125
  have C_K125 := C_W113.trans c_K125
  have f126 := ((f109.wr W113).keep K125)
  have ne127 := Exa.ne f126 f125_1 (by decide)
  have f128 := (f115.keep K125 nin0)
  have ne129 := own_neAA f128 f125_4 (by decide)
  obtain ⟨cl130, Ar130, q130, S130, M130, H130, G130⟩ := id f128
  have hin130 : ¬ ((4:Int32) < 0 ∨ cl130.slots.size ≤ ((4:Int32)).toNatClampNeg) := inb_of S130 ⟨by decide, by decide⟩
  have f131 := f114
  obtain ⟨T130, h130, X130, e130, W130, st130⟩ := stR Y125 hx hZ125 rfl Ar130 (j := (4:Int32)) hin130 rfl (Sto.ofV Ar130 q130 f131 (Ins.self f125_1)) (g := (mkF m 40 #[rv a1, rv b42, iv (p26 + (1:Int32)), iv (4:Int32), iv p30] [(.ref b125_0), (.int (4:Int32)), (.ref b42)])) rfl rfl (hb hby d3_40)
  have sf133 := (c_K125.safe ((((((((C42.keep K53).wr W58).keep K74).wr W79).keep K91).wr W96).keep K108).wr W113).lt (c_W113.safe (((((((C42.keep K53).wr W58).keep K74).wr W79).keep K91).wr W96).keep K108).lt sf116))
  have O_W130 : Old Z n0 h130 := O_K125.wr W130 g61
  have Kp_W130 : Keep h0 h130 [] := Kp_K125.wr W130 (Or.inr z62)
  have c_W130 := CHr.wr W130 sf133 C_K125.1
  have C_W130 := C_K125.trans c_W130
  have N134 := Fr.snoc X130 N125 g61
  have f132 : Arv Z h130 b42 k42 (.object "java/lang/String") (7:Int32) [(.ref b53_0), (.ref b74_0), (.ref b91_0), (.ref b108_0), (.ref b125_0), .null, .null] .null := Arv.set Ar130 q130 S130 M130 H130 G130 rfl W130 4 rfl (Nat.le_of_ble_eq_true rfl)
  obtain ⟨_, Ar135, _, S135, M135, _, _⟩ := id f132
  have f136 := ((f119.keep K125).wr W130)
  have f137 := ((f120.keep K125 nin0).other W130 (Or.inl ne67))
  have f138 := ((f121.keep K125 nin0).other W130 (Or.inl ne67))
  have f139 := ((f122.keep K125 nin0).other W130 ne70)
  obtain ⟨T140, _, _, X140, hQ140, st140⟩ := cV X130 hx hZ125 hw hown125 (y := y6) 124 rfl 29 rfl 31 rfl 30 rfl 32 rfl 9 rfl (by decide) (W := 0) (own_idx l Z a0 hw [] a1 a4 k6 c7 (p30 + (1:Int32)) p9 h130 n0 O_W130 f136 H10 hc11 f137 f138 f139 H12 hc33) (by decide) (by decide) f136 e130 (g := (mkF m 26 #[rv a1, rv b42, iv (p30 + (1:Int32)), iv (5:Int32), iv p30] [(.int (p30 + (1:Int32))), (.int (44:Int32)), (.ref a1)])) rfl (by rw [hml]; rfl) (argsL := [(.int (44:Int32)), (.int (p30 + (1:Int32)))]) (rest := []) (lenOf pd14 rfl) rfl wf (hb hby d3_26) rfl (by decide) (by decide)
  obtain ⟨rfl, N140q, e140⟩ := hQ140
  have N140 := Fr.app N134 N140q
  obtain ⟨_, _, q142a, _, q142c⟩ := isOf hZ125 e140 f136
  obtain ⟨T142, _, _, X142, hSq142, hg142, Cq142, hQ142, st142⟩ := flH X140 (X140.virtualBackS hx (y := y15) (z := y15) hown125 (mo hZ125 hw 125 rfl) (mo hZ125 hw 73 rfl) (notFace_of_selects (args := #[]) (mo hZ125 hw 75 rfl)) (mo hZ125 hw 75 rfl) (mo hZ125 hw 74 rfl) (by decide) (backOfSH (s := s) (vm0 := T125.vm) (W := 2) (own_substr l Z a0 hw [] a1 a4 k6 c7 (p30 + (1:Int32)) p34 p9 k49 h130 n0 O_W130 f136 f137 f138 f139 H10 hc11 H12 H50 H51 hc141) hZ125 (ow hw 76 rfl) (ow hw 9 rfl) (by decide) (by decide) (own_EW hw) C_W130.1) q142a q142c (g := (mkF m 37 #[rv a1, rv b42, iv (p30 + (1:Int32)), iv (5:Int32), iv p34] [(.int p34), (.int (p30 + (1:Int32))), (.ref a1), (.int (5:Int32)), (.ref b42)])) rfl (by rw [hml]; rfl) (Steps.refl _) (argsL := [(.int (p30 + (1:Int32))), (.int p34)]) (rest := [(.int (5:Int32)), (.ref b42)]) (lenOf pd5 rfl) rfl wf (hb hby d3_37) (fun _ _ => ⟨rfl, e140, (by decide : 11 + 2 ≤ _), (by decide : 57 + 10 ≤ _)⟩))
  obtain ⟨Y142, hS142, hZ142, hown142⟩ := rebS (s := s) (vm0 := T125.vm) hS125 (by rw [e140]; exact (Nat.le_trans (Nat.le_refl _) (Keep.of_wr W130).1)) X142 hSq142 hg142 hZ125 hown125
  obtain ⟨b142_0, b142_1, k142_0, rfl, N142q, K142, f142_1, f142_2, f142_3, f142_4⟩ := hQ142
  have N142 := Fr.app N140 N142q
  have O_K142 : Old Z n0 T142.heap := O_W130.keep K142 all0
  have Kp_K142 : Keep h0 T142.heap [] := Kp_W130.trans K142 all0
  have c_K142 := Cq142
  have C_K142 := C_W130.trans c_K142
  have f143 := ((f126.wr W130).keep K142)
  have ne144 := Exa.ne f143 f142_1 (by decide)
  have f145 := (f132.keep K142 nin0)
  have ne146 := own_neAA f145 f142_4 (by decide)
  obtain ⟨cl147, Ar147, q147, S147, M147, H147, G147⟩ := id f145
  have hin147 : ¬ ((5:Int32) < 0 ∨ cl147.slots.size ≤ ((5:Int32)).toNatClampNeg) := inb_of S147 ⟨by decide, by decide⟩
  have f148 := f131
  obtain ⟨T147, h147, X147, e147, W147, st147⟩ := stR Y142 hx hZ142 rfl Ar147 (j := (5:Int32)) hin147 rfl (Sto.ofV Ar147 q147 f148 (Ins.self f142_1)) (g := (mkF m 40 #[rv a1, rv b42, iv (p30 + (1:Int32)), iv (5:Int32), iv p34] [(.ref b142_0), (.int (5:Int32)), (.ref b42)])) rfl rfl (hb hby d3_40)
  have sf150 := (c_K142.safe ((((((((((C42.keep K53).wr W58).keep K74).wr W79).keep K91).wr W96).keep K108).wr W113).keep K125).wr W130).lt (c_W130.safe (((((((((C42.keep K53).wr W58).keep K74).wr W79).keep K91).wr W96).keep K108).wr W113).keep K125).lt sf133))
  have O_W147 : Old Z n0 h147 := O_K142.wr W147 g61
  have Kp_W147 : Keep h0 h147 [] := Kp_K142.wr W147 (Or.inr z62)
  have c_W147 := CHr.wr W147 sf150 C_K142.1
  have C_W147 := C_K142.trans c_W147
  have N151 := Fr.snoc X147 N142 g61
  have f149 : Arv Z h147 b42 k42 (.object "java/lang/String") (7:Int32) [(.ref b53_0), (.ref b74_0), (.ref b91_0), (.ref b108_0), (.ref b125_0), (.ref b142_0), .null] .null := Arv.set Ar147 q147 S147 M147 H147 G147 rfl W147 5 rfl (Nat.le_of_ble_eq_true rfl)
  obtain ⟨_, Ar152, _, S152, M152, _, _⟩ := id f149
  obtain ⟨_, Ar153, _, S153, M153, _, _⟩ := id f149
  have f154 := ((f136.keep K142).wr W147)
  have f155 := ((f137.keep K142 nin0).other W147 (Or.inl ne67))
  have f156 := ((f138.keep K142 nin0).other W147 (Or.inl ne67))
  have f157 := ((f139.keep K142 nin0).other W147 ne70)
  obtain ⟨_, _, q159a, _, q159c⟩ := isOf hZ142 e147 f154
  obtain ⟨T159, _, _, X159, hSq159, hg159, Cq159, hQ159, st159⟩ := flH X147 (X147.virtualBackS hx (y := y14) (z := y14) hown142 (mo hZ142 hw 67 rfl) (mo hZ142 hw 68 rfl) (notFace_of_selects (args := #[]) (mo hZ142 hw 70 rfl)) (mo hZ142 hw 70 rfl) (mo hZ142 hw 69 rfl) (by decide) (backOfSH (s := s) (vm0 := T142.vm) (W := 2) (r14_2 l Z a0 hw [] a1 (p34 + (1:Int32)) a4 k6 c7 p9 k49 h147 n0 O_W147 f154 f155 f156 f157 H10 hc11 H12 H50 H51 hc158) hZ142 (ow hw 71 rfl) (ow hw 9 rfl) (by decide) (by decide) (own_EW hw) C_W147.1) q159a q159c (g := (mkF m 59 #[rv a1, rv b42, iv (p34 + (1:Int32)), iv (6:Int32), iv p34] [(.int (p34 + (1:Int32))), (.ref a1), (.int (6:Int32)), (.ref b42)])) rfl (by rw [hml]; rfl) (Steps.refl _) (argsL := [(.int (p34 + (1:Int32)))]) (rest := [(.int (6:Int32)), (.ref b42)]) (lenOf pd7 rfl) rfl wf (hb hby d3_59) (fun _ _ => ⟨rfl, e147, (by decide : 13 + 2 ≤ _), (by decide : 67 + 10 ≤ _)⟩))
  obtain ⟨Y159, hS159, hZ159, _⟩ := rebS (s := s) (vm0 := T142.vm) hS142 (by rw [e147]; exact (Nat.le_trans (Nat.le_refl _) (Keep.of_wr W147).1)) X159 hSq159 hg159 hZ142 hown142
  obtain ⟨b159_0, b159_1, k159_0, rfl, N159q, K159, f159_1, f159_2, f159_3, f159_4⟩ := hQ159
  have N159 := Fr.app N151 N159q
  have Kp_K159 : Keep h0 T159.heap [] := Kp_W147.trans K159 all0
  have c_K159 := Cq159
  have C_K159 := C_W147.trans c_K159
  have f160 := ((f143.wr W147).keep K159)
  have ne161 := Exa.ne f160 f159_1 (by decide)
  have f162 := (f149.keep K159 nin0)
  have ne163 := own_neAA f162 f159_4 (by decide)
  obtain ⟨cl164, Ar164, q164, S164, M164, H164, G164⟩ := id f162
  have hin164 : ¬ ((6:Int32) < 0 ∨ cl164.slots.size ≤ ((6:Int32)).toNatClampNeg) := inb_of S164 ⟨by decide, by decide⟩
  have f165 := f148
  obtain ⟨_, h164, X164, e164, W164, st164⟩ := stR Y159 hx hZ159 rfl Ar164 (j := (6:Int32)) hin164 rfl (Sto.ofV Ar164 q164 f165 (Ins.self f159_1)) (g := (mkF m 62 #[rv a1, rv b42, iv (p34 + (1:Int32)), iv (6:Int32), iv p34] [(.ref b159_0), (.int (6:Int32)), (.ref b42)])) rfl rfl (hb hby d3_62)
  have sf167 := (c_K159.safe ((((((((((((C42.keep K53).wr W58).keep K74).wr W79).keep K91).wr W96).keep K108).wr W113).keep K125).wr W130).keep K142).wr W147).lt (c_W147.safe (((((((((((C42.keep K53).wr W58).keep K74).wr W79).keep K91).wr W96).keep K108).wr W113).keep K125).wr W130).keep K142).lt sf150))
  have Kp_W164 : Keep h0 h164 [] := Kp_K159.wr W164 (Or.inr z62)
  have c_W164 := CHr.wr W164 sf167 C_K159.1
  have C_W164 := C_K159.trans c_W164
  have N168 := Fr.snoc X164 N159 g61
  have f166 : Arv Z h164 b42 k42 (.object "java/lang/String") (7:Int32) [(.ref b53_0), (.ref b74_0), (.ref b91_0), (.ref b108_0), (.ref b125_0), (.ref b142_0), (.ref b159_0)] .null := Arv.set Ar164 q164 S164 M164 H164 G164 rfl W164 6 rfl (Nat.le_of_ble_eq_true rfl)
  have f169 := (((((((((((((f53_1.wr W58).keep K74).wr W79).keep K91).wr W96).keep K108).wr W113).keep K125).wr W130).keep K142).wr W147).keep K159).wr W164)
  have f170 := (((((((((((((f53_3.other W58 (Or.inl (Ne.symm ne55))).keep K74 nin0).other W79 (Or.inl (Ne.symm ne55))).keep K91 nin0).other W96 (Or.inl (Ne.symm ne55))).keep K108 nin0).other W113 (Or.inl (Ne.symm ne55))).keep K125 nin0).other W130 (Or.inl (Ne.symm ne55))).keep K142 nin0).other W147 (Or.inl (Ne.symm ne55))).keep K159 nin0).other W164 (Or.inl (Ne.symm ne55)))
  have f171 := (((((((((((((f53_2.other W58 (Or.inl (Ne.symm ne55))).keep K74 nin0).other W79 (Or.inl (Ne.symm ne55))).keep K91 nin0).other W96 (Or.inl (Ne.symm ne55))).keep K108 nin0).other W113 (Or.inl (Ne.symm ne55))).keep K125 nin0).other W130 (Or.inl (Ne.symm ne55))).keep K142 nin0).other W147 (Or.inl (Ne.symm ne55))).keep K159 nin0).other W164 (Or.inl (Ne.symm ne55)))
  have f172 := (((((((((((((f53_4.other W58 (Ne.symm ne57)).keep K74 nin0).other W79 (Ne.symm ne57)).keep K91 nin0).other W96 (Ne.symm ne57)).keep K108 nin0).other W113 (Ne.symm ne57)).keep K125 nin0).other W130 (Ne.symm ne57)).keep K142 nin0).other W147 (Ne.symm ne57)).keep K159 nin0).other W164 (Ne.symm ne57))
  have f173 := (((((((((((f74_1.wr W79).keep K91).wr W96).keep K108).wr W113).keep K125).wr W130).keep K142).wr W147).keep K159).wr W164)
  have f174 := (((((((((((f74_3.other W79 (Or.inl (Ne.symm ne76))).keep K91 nin0).other W96 (Or.inl (Ne.symm ne76))).keep K108 nin0).other W113 (Or.inl (Ne.symm ne76))).keep K125 nin0).other W130 (Or.inl (Ne.symm ne76))).keep K142 nin0).other W147 (Or.inl (Ne.symm ne76))).keep K159 nin0).other W164 (Or.inl (Ne.symm ne76)))
  have f175 := (((((((((((f74_2.other W79 (Or.inl (Ne.symm ne76))).keep K91 nin0).other W96 (Or.inl (Ne.symm ne76))).keep K108 nin0).other W113 (Or.inl (Ne.symm ne76))).keep K125 nin0).other W130 (Or.inl (Ne.symm ne76))).keep K142 nin0).other W147 (Or.inl (Ne.symm ne76))).keep K159 nin0).other W164 (Or.inl (Ne.symm ne76)))
  have f176 := (((((((((((f74_4.other W79 (Ne.symm ne78)).keep K91 nin0).other W96 (Ne.symm ne78)).keep K108 nin0).other W113 (Ne.symm ne78)).keep K125 nin0).other W130 (Ne.symm ne78)).keep K142 nin0).other W147 (Ne.symm ne78)).keep K159 nin0).other W164 (Ne.symm ne78))
  have f177 := (((((((((f91_1.wr W96).keep K108).wr W113).keep K125).wr W130).keep K142).wr W147).keep K159).wr W164)
  have f178 := (((((((((f91_3.other W96 (Or.inl (Ne.symm ne93))).keep K108 nin0).other W113 (Or.inl (Ne.symm ne93))).keep K125 nin0).other W130 (Or.inl (Ne.symm ne93))).keep K142 nin0).other W147 (Or.inl (Ne.symm ne93))).keep K159 nin0).other W164 (Or.inl (Ne.symm ne93)))
  have f179 := (((((((((f91_2.other W96 (Or.inl (Ne.symm ne93))).keep K108 nin0).other W113 (Or.inl (Ne.symm ne93))).keep K125 nin0).other W130 (Or.inl (Ne.symm ne93))).keep K142 nin0).other W147 (Or.inl (Ne.symm ne93))).keep K159 nin0).other W164 (Or.inl (Ne.symm ne93)))
  have f180 := (((((((((f91_4.other W96 (Ne.symm ne95)).keep K108 nin0).other W113 (Ne.symm ne95)).keep K125 nin0).other W130 (Ne.symm ne95)).keep K142 nin0).other W147 (Ne.symm ne95)).keep K159 nin0).other W164 (Ne.symm ne95))
  have f181 := (((((((f108_1.wr W113).keep K125).wr W130).keep K142).wr W147).keep K159).wr W164)
  have f182 := (((((((f108_3.other W113 (Or.inl (Ne.symm ne110))).keep K125 nin0).other W130 (Or.inl (Ne.symm ne110))).keep K142 nin0).other W147 (Or.inl (Ne.symm ne110))).keep K159 nin0).other W164 (Or.inl (Ne.symm ne110)))
  have f183 := (((((((f108_2.other W113 (Or.inl (Ne.symm ne110))).keep K125 nin0).other W130 (Or.inl (Ne.symm ne110))).keep K142 nin0).other W147 (Or.inl (Ne.symm ne110))).keep K159 nin0).other W164 (Or.inl (Ne.symm ne110)))
  have f184 := (((((((f108_4.other W113 (Ne.symm ne112)).keep K125 nin0).other W130 (Ne.symm ne112)).keep K142 nin0).other W147 (Ne.symm ne112)).keep K159 nin0).other W164 (Ne.symm ne112))
  have f185 := (((((f125_1.wr W130).keep K142).wr W147).keep K159).wr W164)
  have f186 := (((((f125_3.other W130 (Or.inl (Ne.symm ne127))).keep K142 nin0).other W147 (Or.inl (Ne.symm ne127))).keep K159 nin0).other W164 (Or.inl (Ne.symm ne127)))
  have f187 := (((((f125_2.other W130 (Or.inl (Ne.symm ne127))).keep K142 nin0).other W147 (Or.inl (Ne.symm ne127))).keep K159 nin0).other W164 (Or.inl (Ne.symm ne127)))
  have f188 := (((((f125_4.other W130 (Ne.symm ne129)).keep K142 nin0).other W147 (Ne.symm ne129)).keep K159 nin0).other W164 (Ne.symm ne129))
  have f189 := (((f142_1.wr W147).keep K159).wr W164)
  have f190 := (((f142_3.other W147 (Or.inl (Ne.symm ne144))).keep K159 nin0).other W164 (Or.inl (Ne.symm ne144)))
  have f191 := (((f142_2.other W147 (Or.inl (Ne.symm ne144))).keep K159 nin0).other W164 (Or.inl (Ne.symm ne144)))
  have f192 := (((f142_4.other W147 (Ne.symm ne146)).keep K159 nin0).other W164 (Ne.symm ne146))
  have f193 := (f159_1.wr W164)
  have f194 := (f159_3.other W164 (Or.inl (Ne.symm ne161)))
  have f195 := (f159_2.other W164 (Or.inl (Ne.symm ne161)))
  have f196 := (f159_4.other W164 (Ne.symm ne163))
  refine finH (Q := r3_7Q Z a1 a4 k6 c7 p9 p14 p18 p22 p26 p30 p34 p38 k49 h0 n0) (rm := (rM 6 15 77 95)) (vm := T159.vm) Bd X164 hZ159 (own_EW hw) C_W164 hh e164 hS159 (Nat.le_trans (Nat.le_refl _) (Keep.of_wr W164).1) (some (.ref b42)) nofun ⟨b42, rfl, N168, Kp_W164, z62, own_rows (rs := [b53_0, b74_0, b91_0, b108_0, b125_0, b142_0, b159_0]) H197 (Nat.le_of_ble_eq_true rfl) f166 ⟨⟨b53_1, k53_0, f169, f171, f170, f172⟩, ⟨b74_1, k74_0, f173, f175, f174, f176⟩, ⟨b91_1, k91_0, f177, f179, f178, f180⟩, ⟨b108_1, k108_0, f181, f183, f182, f184⟩, ⟨b125_1, k125_0, f185, f187, f186, f188⟩, ⟨b142_1, k142_0, f189, f191, f190, f192⟩, ⟨b159_1, k159_0, f193, f195, f194, f196⟩, trivial⟩⟩ (by decide) (by decide) fun fs hr => ?_
  show St p e below s₁ m 0 #[rv a1, un, un, un, un] [] _
  refine aN X0 hx hby d3_0 rfl rfl ?_
  refine st41 _ ?_
  refine iC X41 hx hby d3_4 ?_
  refine XS.iadd X41.here hx rfl (hb hby d3_5) rfl ?_
  refine st42 _ ?_
  refine XS.astoreN X42.here hx rfl (hb hby d3_9) rfl rfl (l' := #[rv a1, rv b42, un, un, un]) rfl ?_
  refine iC X42 hx hby d3_10 ?_
  refine XS.istoreN X42.here hx rfl (hb hby d3_11) rfl (l' := #[rv a1, rv b42, iv (0:Int32), un, un]) rfl ?_
  refine iC X42 hx hby d3_12 ?_
  refine XS.istoreN X42.here hx rfl (hb hby d3_13) rfl (l' := #[rv a1, rv b42, iv (0:Int32), iv (0:Int32), un]) rfl ?_
  refine iN X42 hx hby d3_14 rfl ?_
  refine aN X42 hx hby d3_15 rfl rfl ?_
  refine X42.arraylength hx (by rw [e42]; exact Ar43.1) (State.isArrayOf_alike hZ.alike Ar43.2.1) (g := (mkF m 16 #[rv a1, rv b42, iv (0:Int32), iv (0:Int32), un] [(.ref b42), (.int (0:Int32))])) rfl rfl (hb hby d3_16) _ ?_
  rw [len_of S43 M43]
  refine iC X42 hx hby d3_17 ?_
  refine XS.isub X42.here hx rfl (hb hby d3_18) rfl ?_
  refine XS.icmpNo X42.here hx rfl (hb hby d3_19) rfl (tlt (by decide : (0:Int32) < (6:Int32))).2.1 ?_
  refine aN X42 hx hby d3_22 rfl rfl ?_
  refine XS.bipush X42.here hx rfl (hb hby d3_23) ?_
  refine iN X42 hx hby d3_25 rfl ?_
  refine st48.trans ?_
  show St p e below T48 m 29 #[rv a1, rv b42, iv (0:Int32), iv (0:Int32), un] [(.int (own_ix c7 (0:Int32)))] _
  rw [H15]
  refine XS.istore X48.here hx rfl (hb hby d3_29) rfl (l' := #[rv a1, rv b42, iv (0:Int32), iv (0:Int32), iv p14]) rfl ?_
  refine aN X48 hx hby d3_31 rfl rfl ?_
  refine iN X48 hx hby d3_32 rfl ?_
  refine aN X48 hx hby d3_33 rfl rfl ?_
  refine iN X48 hx hby d3_34 rfl ?_
  show St p e below T48 m 35 #[rv a1, rv b42, iv (0:Int32), iv (0:Int32), iv p14] [(.int (0:Int32)), (.ref a1), (.int (0:Int32)), (.ref b42)] _
  refine iL X48 hx hby d3_35 rfl ?_
  refine st53.trans ?_
  refine st58 _ ?_
  refine iL X58 hx hby d3_41 rfl ?_
  refine iC X58 hx hby d3_43 ?_
  refine XS.iadd X58.here hx rfl (hb hby d3_44) rfl ?_
  refine XS.istoreN X58.here hx rfl (hb hby d3_45) rfl (l' := #[rv a1, rv b42, iv (p14 + (1:Int32)), iv (0:Int32), iv p14]) rfl ?_
  refine XS.iinc X58.here hx rfl (hb hby d3_46) rfl (l' := #[rv a1, rv b42, iv (p14 + (1:Int32)), iv (1:Int32), iv p14]) rfl ?_
  refine XS.goto X58.here hx rfl (pc0 := 49) (pc' := 14) rfl (hb hby d3_49) (by decide) (by decide) ?_
  refine iN X58 hx hby d3_14 rfl ?_
  refine aN X58 hx hby d3_15 rfl rfl ?_
  refine X58.arraylength hx (by rw [e58]; exact Ar65.1) (State.isArrayOf_alike hZ53.alike Ar65.2.1) (g := (mkF m 16 #[rv a1, rv b42, iv (p14 + (1:Int32)), iv (1:Int32), iv p14] [(.ref b42), (.int (1:Int32))])) rfl rfl (hb hby d3_16) _ ?_
  rw [len_of S65 M65]
  refine iC X58 hx hby d3_17 ?_
  refine XS.isub X58.here hx rfl (hb hby d3_18) rfl ?_
  refine XS.icmpNo X58.here hx rfl (hb hby d3_19) rfl (tlt (by decide : (1:Int32) < (6:Int32))).2.1 ?_
  refine aN X58 hx hby d3_22 rfl rfl ?_
  refine XS.bipush X58.here hx rfl (hb hby d3_23) ?_
  refine iN X58 hx hby d3_25 rfl ?_
  refine st72.trans ?_
  show St p e below T72 m 29 #[rv a1, rv b42, iv (p14 + (1:Int32)), iv (1:Int32), iv p14] [(.int (own_ix c7 (p14 + (1:Int32))))] _
  rw [H19]
  refine XS.istore X72.here hx rfl (hb hby d3_29) rfl (l' := #[rv a1, rv b42, iv (p14 + (1:Int32)), iv (1:Int32), iv p18]) rfl ?_
  refine aN X72 hx hby d3_31 rfl rfl ?_
  refine iN X72 hx hby d3_32 rfl ?_
  refine aN X72 hx hby d3_33 rfl rfl ?_
  refine iN X72 hx hby d3_34 rfl ?_
  refine iL X72 hx hby d3_35 rfl ?_
  show St p e below T72 m 37 #[rv a1, rv b42, iv (p14 + (1:Int32)), iv (1:Int32), iv p18] [(.int p18), (.int (p14 + (1:Int32))), (.ref a1), (.int (1:Int32)), (.ref b42)] _
  refine st74.trans ?_
  refine st79 _ ?_
  refine iL X79 hx hby d3_41 rfl ?_
  refine iC X79 hx hby d3_43 ?_
  refine XS.iadd X79.here hx rfl (hb hby d3_44) rfl ?_
  refine XS.istoreN X79.here hx rfl (hb hby d3_45) rfl (l' := #[rv a1, rv b42, iv (p18 + (1:Int32)), iv (1:Int32), iv p18]) rfl ?_
  refine XS.iinc X79.here hx rfl (hb hby d3_46) rfl (l' := #[rv a1, rv b42, iv (p18 + (1:Int32)), iv (2:Int32), iv p18]) rfl ?_
  refine XS.goto X79.here hx rfl (pc0 := 49) (pc' := 14) rfl (hb hby d3_49) (by decide) (by decide) ?_
  refine iN X79 hx hby d3_14 rfl ?_
  refine aN X79 hx hby d3_15 rfl rfl ?_
  refine X79.arraylength hx (by rw [e79]; exact Ar84.1) (State.isArrayOf_alike hZ74.alike Ar84.2.1) (g := (mkF m 16 #[rv a1, rv b42, iv (p18 + (1:Int32)), iv (2:Int32), iv p18] [(.ref b42), (.int (2:Int32))])) rfl rfl (hb hby d3_16) _ ?_
  rw [len_of S84 M84]
  refine iC X79 hx hby d3_17 ?_
  refine XS.isub X79.here hx rfl (hb hby d3_18) rfl ?_
  refine XS.icmpNo X79.here hx rfl (hb hby d3_19) rfl (tlt (by decide : (2:Int32) < (6:Int32))).2.1 ?_
  refine aN X79 hx hby d3_22 rfl rfl ?_
  refine XS.bipush X79.here hx rfl (hb hby d3_23) ?_
  refine iN X79 hx hby d3_25 rfl ?_
  refine st89.trans ?_
  show St p e below T89 m 29 #[rv a1, rv b42, iv (p18 + (1:Int32)), iv (2:Int32), iv p18] [(.int (own_ix c7 (p18 + (1:Int32))))] _
  rw [H23]
  refine XS.istore X89.here hx rfl (hb hby d3_29) rfl (l' := #[rv a1, rv b42, iv (p18 + (1:Int32)), iv (2:Int32), iv p22]) rfl ?_
  refine aN X89 hx hby d3_31 rfl rfl ?_
  refine iN X89 hx hby d3_32 rfl ?_
  refine aN X89 hx hby d3_33 rfl rfl ?_
  refine iN X89 hx hby d3_34 rfl ?_
  refine iL X89 hx hby d3_35 rfl ?_
  refine st91.trans ?_
  show St p e below T91 m 40 #[rv a1, rv b42, iv (p18 + (1:Int32)), iv (2:Int32), iv p22] [(.ref b91_0), (.int (2:Int32)), (.ref b42)] _
  refine st96 _ ?_
  refine iL X96 hx hby d3_41 rfl ?_
  refine iC X96 hx hby d3_43 ?_
  refine XS.iadd X96.here hx rfl (hb hby d3_44) rfl ?_
  refine XS.istoreN X96.here hx rfl (hb hby d3_45) rfl (l' := #[rv a1, rv b42, iv (p22 + (1:Int32)), iv (2:Int32), iv p22]) rfl ?_
  refine XS.iinc X96.here hx rfl (hb hby d3_46) rfl (l' := #[rv a1, rv b42, iv (p22 + (1:Int32)), iv (3:Int32), iv p22]) rfl ?_
  refine XS.goto X96.here hx rfl (pc0 := 49) (pc' := 14) rfl (hb hby d3_49) (by decide) (by decide) ?_
  refine iN X96 hx hby d3_14 rfl ?_
  refine aN X96 hx hby d3_15 rfl rfl ?_
  refine X96.arraylength hx (by rw [e96]; exact Ar101.1) (State.isArrayOf_alike hZ91.alike Ar101.2.1) (g := (mkF m 16 #[rv a1, rv b42, iv (p22 + (1:Int32)), iv (3:Int32), iv p22] [(.ref b42), (.int (3:Int32))])) rfl rfl (hb hby d3_16) _ ?_
  rw [len_of S101 M101]
  refine iC X96 hx hby d3_17 ?_
  refine XS.isub X96.here hx rfl (hb hby d3_18) rfl ?_
  refine XS.icmpNo X96.here hx rfl (hb hby d3_19) rfl (tlt (by decide : (3:Int32) < (6:Int32))).2.1 ?_
  refine aN X96 hx hby d3_22 rfl rfl ?_
  refine XS.bipush X96.here hx rfl (hb hby d3_23) ?_
  refine iN X96 hx hby d3_25 rfl ?_
  refine st106.trans ?_
  show St p e below T106 m 29 #[rv a1, rv b42, iv (p22 + (1:Int32)), iv (3:Int32), iv p22] [(.int (own_ix c7 (p22 + (1:Int32))))] _
  rw [H27]
  refine XS.istore X106.here hx rfl (hb hby d3_29) rfl (l' := #[rv a1, rv b42, iv (p22 + (1:Int32)), iv (3:Int32), iv p26]) rfl ?_
  refine aN X106 hx hby d3_31 rfl rfl ?_
  refine iN X106 hx hby d3_32 rfl ?_
  refine aN X106 hx hby d3_33 rfl rfl ?_
  refine iN X106 hx hby d3_34 rfl ?_
  refine iL X106 hx hby d3_35 rfl ?_
  refine st108.trans ?_
  refine st113 _ ?_
  show St p e below T113 m 41 #[rv a1, rv b42, iv (p22 + (1:Int32)), iv (3:Int32), iv p26] [] _
  refine iL X113 hx hby d3_41 rfl ?_
  refine iC X113 hx hby d3_43 ?_
  refine XS.iadd X113.here hx rfl (hb hby d3_44) rfl ?_
  refine XS.istoreN X113.here hx rfl (hb hby d3_45) rfl (l' := #[rv a1, rv b42, iv (p26 + (1:Int32)), iv (3:Int32), iv p26]) rfl ?_
  refine XS.iinc X113.here hx rfl (hb hby d3_46) rfl (l' := #[rv a1, rv b42, iv (p26 + (1:Int32)), iv (4:Int32), iv p26]) rfl ?_
  refine XS.goto X113.here hx rfl (pc0 := 49) (pc' := 14) rfl (hb hby d3_49) (by decide) (by decide) ?_
  refine iN X113 hx hby d3_14 rfl ?_
  refine aN X113 hx hby d3_15 rfl rfl ?_
  refine X113.arraylength hx (by rw [e113]; exact Ar118.1) (State.isArrayOf_alike hZ108.alike Ar118.2.1) (g := (mkF m 16 #[rv a1, rv b42, iv (p26 + (1:Int32)), iv (4:Int32), iv p26] [(.ref b42), (.int (4:Int32))])) rfl rfl (hb hby d3_16) _ ?_
  rw [len_of S118 M118]
  refine iC X113 hx hby d3_17 ?_
  refine XS.isub X113.here hx rfl (hb hby d3_18) rfl ?_
  refine XS.icmpNo X113.here hx rfl (hb hby d3_19) rfl (tlt (by decide : (4:Int32) < (6:Int32))).2.1 ?_
  refine aN X113 hx hby d3_22 rfl rfl ?_
  refine XS.bipush X113.here hx rfl (hb hby d3_23) ?_
  refine iN X113 hx hby d3_25 rfl ?_
  refine st123.trans ?_
  show St p e below T123 m 29 #[rv a1, rv b42, iv (p26 + (1:Int32)), iv (4:Int32), iv p26] [(.int (own_ix c7 (p26 + (1:Int32))))] _
  rw [H31]
  refine XS.istore X123.here hx rfl (hb hby d3_29) rfl (l' := #[rv a1, rv b42, iv (p26 + (1:Int32)), iv (4:Int32), iv p30]) rfl ?_
  refine aN X123 hx hby d3_31 rfl rfl ?_
  refine iN X123 hx hby d3_32 rfl ?_
  refine aN X123 hx hby d3_33 rfl rfl ?_
  refine iN X123 hx hby d3_34 rfl ?_
  refine iL X123 hx hby d3_35 rfl ?_
  refine st125.trans ?_
  refine st130 _ ?_
  refine iL X130 hx hby d3_41 rfl ?_
  show St p e below T130 m 43 #[rv a1, rv b42, iv (p26 + (1:Int32)), iv (4:Int32), iv p30] [(.int p30)] _
  refine iC X130 hx hby d3_43 ?_
  refine XS.iadd X130.here hx rfl (hb hby d3_44) rfl ?_
  refine XS.istoreN X130.here hx rfl (hb hby d3_45) rfl (l' := #[rv a1, rv b42, iv (p30 + (1:Int32)), iv (4:Int32), iv p30]) rfl ?_
  refine XS.iinc X130.here hx rfl (hb hby d3_46) rfl (l' := #[rv a1, rv b42, iv (p30 + (1:Int32)), iv (5:Int32), iv p30]) rfl ?_
  refine XS.goto X130.here hx rfl (pc0 := 49) (pc' := 14) rfl (hb hby d3_49) (by decide) (by decide) ?_
  refine iN X130 hx hby d3_14 rfl ?_
  refine aN X130 hx hby d3_15 rfl rfl ?_
  refine X130.arraylength hx (by rw [e130]; exact Ar135.1) (State.isArrayOf_alike hZ125.alike Ar135.2.1) (g := (mkF m 16 #[rv a1, rv b42, iv (p30 + (1:Int32)), iv (5:Int32), iv p30] [(.ref b42), (.int (5:Int32))])) rfl rfl (hb hby d3_16) _ ?_
  rw [len_of S135 M135]
  refine iC X130 hx hby d3_17 ?_
  refine XS.isub X130.here hx rfl (hb hby d3_18) rfl ?_
  refine XS.icmpNo X130.here hx rfl (hb hby d3_19) rfl (tlt (by decide : (5:Int32) < (6:Int32))).2.1 ?_
  refine aN X130 hx hby d3_22 rfl rfl ?_
  refine XS.bipush X130.here hx rfl (hb hby d3_23) ?_
  refine iN X130 hx hby d3_25 rfl ?_
  refine st140.trans ?_
  show St p e below T140 m 29 #[rv a1, rv b42, iv (p30 + (1:Int32)), iv (5:Int32), iv p30] [(.int (own_ix c7 (p30 + (1:Int32))))] _
  rw [H35]
  refine XS.istore X140.here hx rfl (hb hby d3_29) rfl (l' := #[rv a1, rv b42, iv (p30 + (1:Int32)), iv (5:Int32), iv p34]) rfl ?_
  refine aN X140 hx hby d3_31 rfl rfl ?_
  refine iN X140 hx hby d3_32 rfl ?_
  refine aN X140 hx hby d3_33 rfl rfl ?_
  refine iN X140 hx hby d3_34 rfl ?_
  refine iL X140 hx hby d3_35 rfl ?_
  refine st142.trans ?_
  refine st147 _ ?_
  refine iL X147 hx hby d3_41 rfl ?_
  refine iC X147 hx hby d3_43 ?_
  show St p e below T147 m 44 #[rv a1, rv b42, iv (p30 + (1:Int32)), iv (5:Int32), iv p34] [(.int (1:Int32)), (.int p34)] _
  refine XS.iadd X147.here hx rfl (hb hby d3_44) rfl ?_
  refine XS.istoreN X147.here hx rfl (hb hby d3_45) rfl (l' := #[rv a1, rv b42, iv (p34 + (1:Int32)), iv (5:Int32), iv p34]) rfl ?_
  refine XS.iinc X147.here hx rfl (hb hby d3_46) rfl (l' := #[rv a1, rv b42, iv (p34 + (1:Int32)), iv (6:Int32), iv p34]) rfl ?_
  refine XS.goto X147.here hx rfl (pc0 := 49) (pc' := 14) rfl (hb hby d3_49) (by decide) (by decide) ?_
  refine iN X147 hx hby d3_14 rfl ?_
  refine aN X147 hx hby d3_15 rfl rfl ?_
  refine X147.arraylength hx (by rw [e147]; exact Ar152.1) (State.isArrayOf_alike hZ142.alike Ar152.2.1) (g := (mkF m 16 #[rv a1, rv b42, iv (p34 + (1:Int32)), iv (6:Int32), iv p34] [(.ref b42), (.int (6:Int32))])) rfl rfl (hb hby d3_16) _ ?_
  rw [len_of S152 M152]
  refine iC X147 hx hby d3_17 ?_
  refine XS.isub X147.here hx rfl (hb hby d3_18) rfl ?_
  refine XS.icmpYes X147.here hx rfl (pc0 := 19) (pc' := 52) rfl (hb hby d3_19) rfl (flt (by decide : ¬ ((6:Int32) < (6:Int32)))).2.1 (by decide) (by decide) ?_
  refine aN X147 hx hby d3_52 rfl rfl ?_
  refine aN X147 hx hby d3_53 rfl rfl ?_
  refine X147.arraylength hx (by rw [e147]; exact Ar153.1) (State.isArrayOf_alike hZ142.alike Ar153.2.1) (g := (mkF m 54 #[rv a1, rv b42, iv (p34 + (1:Int32)), iv (6:Int32), iv p34] [(.ref b42), (.ref b42)])) rfl rfl (hb hby d3_54) _ ?_
  rw [len_of S153 M153]
  refine iC X147 hx hby d3_55 ?_
  refine XS.isub X147.here hx rfl (hb hby d3_56) rfl ?_
  refine aN X147 hx hby d3_57 rfl rfl ?_
  refine iN X147 hx hby d3_58 rfl ?_
  refine st159.trans ?_
  refine st164 _ ?_
  refine aN X164 hx hby d3_63 rfl rfl ?_
  exact retA X164 hx Bd.returns rfl rfl (hb hby d3_64) hr
theorem own_fields (l : Launch) (Z : State) (a0 : Array Value) (hw : HW a0 Z) (ws : List Jvm.Cond) (a1 b1 : Addr) (k1 : ClassId) (c1 : List Int32) (z1:Int32) (vF : Value) (h0 : Heap) (n0 : Nat) (O0 : Old Z n0 h0) (Q0 : xE1 Z h0 a1) (Q1 : xF2 Z h0 a1 (.int (0:Int32))) (Q2 : xF3 Z h0 a1 (.ref b1)) (Q3 : Arv Z h0 b1 k1 .byte (own_tn c1) (own_tb c1) (.int (0:Int32))) (Q4 : Sta Z Z.heap "java/lang/String" "COMPACT_STRINGS" "Z" (.int z1)) (Q5 : ¬ (z1 = (0:Int32))) (Q6 : own_GT c1) (Q7 : Sta Z Z.heap "jdk/internal/util/Preconditions" "SIOOBE_FORMATTER" "Ljava/util/function/BiFunction;" vF) (Q8 : vF.isRef = true) :
    MFH l y3 cP22_2 5 (some (.array (.object "java/lang/String"))) ws ({ frames := 6, cells := 15, slots := 77, locals := 95 } : Room) Z #[(.ref a1)] h0 (own_fldQ Z c1 h0 n0) := by
  have hL : c1.length ≤ 6 := Q6.1
  by_cases h1 : (own_ix c1 (0:Int32)) < (0:Int32)
  · exact r3_1 l Z a0 hw ws a1 b1 k1 c1 z1 (own_ix c1 (0:Int32)) vF h0 n0 O0 Q0 Q1 Q2 Q3 Q4 Q5 Q6 (own_po0 _) rfl h1 Q7 Q8 (own_rngN hL (own_po0 _)) (by show own_sp (c1.drop (0:Int32).toNatClampNeg) = _; rw [own_spN hL (own_po0 _) h1])
  have s1 := own_spS hL (own_po0 _) h1
  by_cases h2 : (own_ix c1 ((own_ix c1 (0:Int32)) + (1:Int32))) < (0:Int32)
  · exact r3_2 l Z a0 hw ws a1 b1 k1 c1 z1 (own_ix c1 (0:Int32)) (own_ix c1 ((own_ix c1 (0:Int32)) + (1:Int32))) vF h0 n0 O0 Q0 Q1 Q2 Q3 Q4 Q5 Q6 (own_po0 _) rfl h1 s1.2.2.1 rfl h2 Q7 Q8 s1.2.1 (own_rngN hL s1.2.2.1) (by show own_sp (c1.drop (0:Int32).toNatClampNeg) = _; rw [s1.1, own_spN hL s1.2.2.1 h2])
  have s2 := own_spS hL s1.2.2.1 h2
  by_cases h3 : (own_ix c1 ((own_ix c1 ((own_ix c1 (0:Int32)) + (1:Int32))) + (1:Int32))) < (0:Int32)
  · exact r3_3 l Z a0 hw ws a1 b1 k1 c1 z1 (own_ix c1 (0:Int32)) (own_ix c1 ((own_ix c1 (0:Int32)) + (1:Int32))) (own_ix c1 ((own_ix c1 ((own_ix c1 (0:Int32)) + (1:Int32))) + (1:Int32))) vF h0 n0 O0 Q0 Q1 Q2 Q3 Q4 Q5 Q6 (own_po0 _) rfl h1 s1.2.2.1 rfl h2 s2.2.2.1 rfl h3 Q7 Q8 s1.2.1 s2.2.1 (own_rngN hL s2.2.2.1) (by show own_sp (c1.drop (0:Int32).toNatClampNeg) = _; rw [s1.1, s2.1, own_spN hL s2.2.2.1 h3])
  have s3 := own_spS hL s2.2.2.1 h3
  by_cases h4 : (own_ix c1 ((own_ix c1 ((own_ix c1 ((own_ix c1 (0:Int32)) + (1:Int32))) + (1:Int32))) + (1:Int32))) < (0:Int32)
  · exact r3_4 l Z a0 hw ws a1 b1 k1 c1 z1 (own_ix c1 (0:Int32)) (own_ix c1 ((own_ix c1 (0:Int32)) + (1:Int32))) (own_ix c1 ((own_ix c1 ((own_ix c1 (0:Int32)) + (1:Int32))) + (1:Int32))) (own_ix c1 ((own_ix c1 ((own_ix c1 ((own_ix c1 (0:Int32)) + (1:Int32))) + (1:Int32))) + (1:Int32))) vF h0 n0 O0 Q0 Q1 Q2 Q3 Q4 Q5 Q6 (own_po0 _) rfl h1 s1.2.2.1 rfl h2 s2.2.2.1 rfl h3 s3.2.2.1 rfl h4 Q7 Q8 s1.2.1 s2.2.1 s3.2.1 (own_rngN hL s3.2.2.1) (by show own_sp (c1.drop (0:Int32).toNatClampNeg) = _; rw [s1.1, s2.1, s3.1, own_spN hL s3.2.2.1 h4])
  have s4 := own_spS hL s3.2.2.1 h4
  by_cases h5 : (own_ix c1 ((own_ix c1 ((own_ix c1 ((own_ix c1 ((own_ix c1 (0:Int32)) + (1:Int32))) + (1:Int32))) + (1:Int32))) + (1:Int32))) < (0:Int32)
  · exact r3_5 l Z a0 hw ws a1 b1 k1 c1 z1 (own_ix c1 (0:Int32)) (own_ix c1 ((own_ix c1 (0:Int32)) + (1:Int32))) (own_ix c1 ((own_ix c1 ((own_ix c1 (0:Int32)) + (1:Int32))) + (1:Int32))) (own_ix c1 ((own_ix c1 ((own_ix c1 ((own_ix c1 (0:Int32)) + (1:Int32))) + (1:Int32))) + (1:Int32))) (own_ix c1 ((own_ix c1 ((own_ix c1 ((own_ix c1 ((own_ix c1 (0:Int32)) + (1:Int32))) + (1:Int32))) + (1:Int32))) + (1:Int32))) vF h0 n0 O0 Q0 Q1 Q2 Q3 Q4 Q5 Q6 (own_po0 _) rfl h1 s1.2.2.1 rfl h2 s2.2.2.1 rfl h3 s3.2.2.1 rfl h4 s4.2.2.1 rfl h5 Q7 Q8 s1.2.1 s2.2.1 s3.2.1 s4.2.1 (own_rngN hL s4.2.2.1) (by show own_sp (c1.drop (0:Int32).toNatClampNeg) = _; rw [s1.1, s2.1, s3.1, s4.1, own_spN hL s4.2.2.1 h5])
  have s5 := own_spS hL s4.2.2.1 h5
  by_cases h6 : (own_ix c1 ((own_ix c1 ((own_ix c1 ((own_ix c1 ((own_ix c1 ((own_ix c1 (0:Int32)) + (1:Int32))) + (1:Int32))) + (1:Int32))) + (1:Int32))) + (1:Int32))) < (0:Int32)
  · exact r3_6 l Z a0 hw ws a1 b1 k1 c1 z1 (own_ix c1 (0:Int32)) (own_ix c1 ((own_ix c1 (0:Int32)) + (1:Int32))) (own_ix c1 ((own_ix c1 ((own_ix c1 (0:Int32)) + (1:Int32))) + (1:Int32))) (own_ix c1 ((own_ix c1 ((own_ix c1 ((own_ix c1 (0:Int32)) + (1:Int32))) + (1:Int32))) + (1:Int32))) (own_ix c1 ((own_ix c1 ((own_ix c1 ((own_ix c1 ((own_ix c1 (0:Int32)) + (1:Int32))) + (1:Int32))) + (1:Int32))) + (1:Int32))) (own_ix c1 ((own_ix c1 ((own_ix c1 ((own_ix c1 ((own_ix c1 ((own_ix c1 (0:Int32)) + (1:Int32))) + (1:Int32))) + (1:Int32))) + (1:Int32))) + (1:Int32))) vF h0 n0 O0 Q0 Q1 Q2 Q3 Q4 Q5 Q6 (own_po0 _) rfl h1 s1.2.2.1 rfl h2 s2.2.2.1 rfl h3 s3.2.2.1 rfl h4 s4.2.2.1 rfl h5 s5.2.2.1 rfl h6 Q7 Q8 s1.2.1 s2.2.1 s3.2.1 s4.2.1 s5.2.1 (own_rngN hL s5.2.2.1) (by show own_sp (c1.drop (0:Int32).toNatClampNeg) = _; rw [s1.1, s2.1, s3.1, s4.1, s5.1, own_spN hL s5.2.2.1 h6])
  have s6 := own_spS hL s5.2.2.1 h6
  have h7 : (own_ix c1 ((own_ix c1 ((own_ix c1 ((own_ix c1 ((own_ix c1 ((own_ix c1 ((own_ix c1 (0:Int32)) + (1:Int32))) + (1:Int32))) + (1:Int32))) + (1:Int32))) + (1:Int32))) + (1:Int32))) < (0:Int32) := by
    refine Decidable.byContradiction fun h7 => ?_
    have s7 := own_spS hL s6.2.2.1 h7
    have z0 : (0:Int32).toNatClampNeg = 0 := rfl
    have t1 := s1.2.2.2
    have t2 := s2.2.2.2
    have t3 := s3.2.2.2
    have t4 := s4.2.2.2
    have t5 := s5.2.2.2
    have t6 := s6.2.2.2
    have t7 := s7.2.2.2
    have t8 := s7.2.2.1.2
    omega
  exact r3_7 l Z a0 hw ws a1 b1 k1 c1 z1 (own_ix c1 (0:Int32)) (own_ix c1 ((own_ix c1 (0:Int32)) + (1:Int32))) (own_ix c1 ((own_ix c1 ((own_ix c1 (0:Int32)) + (1:Int32))) + (1:Int32))) (own_ix c1 ((own_ix c1 ((own_ix c1 ((own_ix c1 (0:Int32)) + (1:Int32))) + (1:Int32))) + (1:Int32))) (own_ix c1 ((own_ix c1 ((own_ix c1 ((own_ix c1 ((own_ix c1 (0:Int32)) + (1:Int32))) + (1:Int32))) + (1:Int32))) + (1:Int32))) (own_ix c1 ((own_ix c1 ((own_ix c1 ((own_ix c1 ((own_ix c1 ((own_ix c1 (0:Int32)) + (1:Int32))) + (1:Int32))) + (1:Int32))) + (1:Int32))) + (1:Int32))) (own_ix c1 ((own_ix c1 ((own_ix c1 ((own_ix c1 ((own_ix c1 ((own_ix c1 ((own_ix c1 (0:Int32)) + (1:Int32))) + (1:Int32))) + (1:Int32))) + (1:Int32))) + (1:Int32))) + (1:Int32))) vF h0 n0 O0 Q0 Q1 Q2 Q3 Q4 Q5 Q6 (own_po0 _) rfl h1 s1.2.2.1 rfl h2 s2.2.2.1 rfl h3 s3.2.2.1 rfl h4 s4.2.2.1 rfl h5 s5.2.2.1 rfl h6 s6.2.2.1 rfl h7 Q7 Q8 s1.2.1 s2.2.1 s3.2.1 s4.2.1 s5.2.1 s6.2.1 (own_rngN hL s6.2.2.1) (by show own_sp (c1.drop (0:Int32).toNatClampNeg) = _; rw [s1.1, s2.1, s3.1, s4.1, s5.1, s6.1, own_spN hL s6.2.2.1 h7])
theorem pd0 : parseMethodDescriptor "(Ljava/lang/String;)[Ljava/lang/String;" = some ⟨[(.object "java/lang/String")], some (.array (.object "java/lang/String"))⟩ := by decide +kernel
def lawQ (n0 : Nat) (v : Option Value) (h : Heap) (L : List Loc) : Prop := v = some (.int (1:Int32)) ∧ Fr n0 L
theorem law_1 (l : Launch) (Z : State) (a0 : Array Value) (hw : HW a0 Z) (ws : List Jvm.Cond) (zCOMPACT_STRINGS:Int32) (vF : Value) (B : Base Z zCOMPACT_STRINGS vF) (i0:Int32) (i1 : Int64) (h0 : Heap) (n0 : Nat) (O0 : Old Z n0 h0) (pin0 : (((i0.toUInt32 >>> ((6:Int32) &&& 31).toUInt32).toInt32) % (7:Int32)) = (0:Int32)) (hc19 : (0:Int32) = ((own_n2 (own_sp [])) - (1:Int32))) (hc21 : own_inb (own_sp []) (0:Int32)) (hc25 : (own_tn (own_nth (own_sp []) (0:Int32))) = (0:Int32)) :
    MFH l x code maxLocals ret ws room_1 Z #[(.int i0), (.long i1)] h0 (lawQ n0) := by
  refine own_inH (pq pn0) #[iv i0, .val (.long i1), .second, un, un, un, un, un, un] (fun _ => by first | (simp [entryFrame, mkF, argsToLocals, Value.category, maxLocals]; done) | rfl) ?_
  intro p e s m below meth c s₁ Bd hx hby hml hown hnm hZ hh C0 e0 X0
  have N0 := Fr.nil n0
  obtain ⟨B0, B1, B2, B3⟩ := B
  obtain ⟨_, h1, _, b1_0, k1_0, X1, e1, N1, K1, _, f1_2, _, st1⟩ := g1_1 i0 i1 (0:Int32) ⟨X0, hx, hZ, hw, hby, hml, hown, e0, O0, N0, by decide, by decide, by decide, by decide⟩
  have O_K1 : Old Z n0 h1 := O0.keep K1 all0
  have c_K1 := CHr.keep K1 all0 C0.1
  have C_K1 := C0.trans c_K1
  obtain ⟨T2, _, _, X2, hSq2, hg2, Cq2, hQ2, st2⟩ := flH X1 (Jvm.RoadKit.callSS X1 hx (y := y2) hown (mo hZ hw 5 rfl) (mo hZ hw 6 rfl) (mo hZ hw 3 rfl) (mo hZ hw 7 rfl) (by decide) (backOfSH (s := s) (vm0 := s.vm) (W := 0) (r2_1 l Z a0 hw [] b1_0 k1_0 (own_pk i0 i1 (0:Int32)) (own_pk i0 i1 (1:Int32)) (own_pk i0 i1 (2:Int32)) (own_pk i0 i1 (3:Int32)) (own_pk i0 i1 (4:Int32)) (own_pk i0 i1 (5:Int32)) h1 n0 O_K1 f1_2) hZ (ow hw 7 rfl) (ow hw 3 rfl) (by decide) (by decide) (own_EW hw) C_K1.1) (g := (mkF m 77 #[iv i0, .val (.long i1), .second, iv (0:Int32), rv b1_0, un, un, un, un] [(.int (0:Int32)), (.ref b1_0)])) rfl (by rw [hml]; rfl) (argsL := [(.ref b1_0), (.int (0:Int32))]) (rest := []) (lenOf pd4 rfl) rfl wf (hb hby at_77) (fun _ _ => ⟨rfl, e1, (by decide : 1 + 2 ≤ _), (by decide : 6 + 4 ≤ _)⟩))
  obtain ⟨Y2, hS2, hZ2, hown2⟩ := rebS (s := s) (vm0 := s.vm) (State.WarmedH.since (State.WarmedH.refl s) 0) (by rw [e1]; exact (Nat.zero_le _)) X2 hSq2 hg2 hZ hown
  obtain ⟨b2_0, b2_1, k2_0, rfl, N2q, K2, f2_1, f2_2, f2_3, f2_4⟩ := hQ2
  have N2 := Fr.app N1 N2q
  have O_K2 : Old Z n0 T2.heap := O_K1.keep K2 all0
  have c_K2 := Cq2
  have C_K2 := C_K1.trans c_K2
  obtain ⟨T8, _, _, X8, hSq8, hg8, Cq8, hQ8, st8⟩ := flH Y2 (Jvm.RoadKit.callSS Y2 hx (y := y3) hown2 (mo hZ2 hw 16 rfl) (mo hZ2 hw 17 rfl) (mo hZ2 hw 18 rfl) (mo hZ2 hw 19 rfl) (by decide) (backOfSH (s := s) (vm0 := T2.vm) (W := 0) (own_fields l Z a0 hw [] b2_0 b2_1 k2_0 ([]) zCOMPACT_STRINGS vF T2.heap n0 O_K2 f2_1 f2_3 f2_2 f2_4 B0 B1 own_gt0 B2 B3) hZ2 (ow hw 19 rfl) (ow hw 18 rfl) (by decide) (by decide) (own_EW hw) C_K2.1) (g := (mkF m 84 #[iv i0, .val (.long i1), .second, iv (0:Int32), rv b1_0, rv b2_0, un, un, un] [(.ref b2_0)])) rfl (by rw [hml]; rfl) (argsL := [(.ref b2_0)]) (rest := []) (lenOf pd0 rfl) rfl wf (hb hby at_84) (fun _ _ => ⟨rfl, rfl, (by decide : 3 + 15 ≤ _), (by decide : 10 + 77 ≤ _)⟩))
  obtain ⟨Y8, hS8, hZ8, hown8⟩ := rebS (s := s) (vm0 := T2.vm) hS2 (Nat.le_refl _) X8 hSq8 hg8 hZ2 hown2
  obtain ⟨b8_0, rfl, N8q, K8, _, f8_2⟩ := hQ8
  have N8 := Fr.app N2 N8q
  have O_K8 : Old Z n0 T8.heap := O_K2.keep K8 all0
  have c_K8 := Cq8
  have C_K8 := C_K2.trans c_K8
  obtain ⟨_, h9, k9, X9, e9, E9, A9, C9, st9⟩ := newPE Y8 hx hZ8 (aty := .int) (ow hw 86 rfl) rfl (g := (mkF m 97 #[iv i0, .val (.long i1), .second, iv (0:Int32), rv b1_0, rv b2_0, rv b8_0, un, un] [(.int (3:Int32))])) rfl (hb hby at_97) rfl (by decide) (cap := 3) (by decide) (by decide) (by decide) (by decide) (ad := "[I") (by decide)
  obtain ⟨b9, g9⟩ : ∃ z, z = T8.heap.size := ⟨_, rfl⟩
  rw [← g9] at A9 C9 st9
  have O_E9 : Old Z n0 h9 := O_K8.ext E9
  have c_E9 := CHr.ext E9 C_K8.1
  have C_E9 := C_K8.trans c_E9
  have V9 : Arv Z h9 b9 k9 .int (3:Int32) [(.int (0:Int32)), (.int (0:Int32)), (.int (0:Int32))] (.int (0:Int32)) := (Arv.new A9 (by decide)).pad (pad_rep [] (.int (0:Int32)) 3)
  obtain ⟨cl10, Ar10, q10, S10, M10, H10, G10⟩ := id V9
  have hin10 : ¬ ((2:Int32) < 0 ∨ cl10.slots.size ≤ ((2:Int32)).toNatClampNeg) := inb_of S10 ⟨by decide, by decide⟩
  obtain ⟨T10, h10, X10, e10, W10, st10⟩ := stI X9 hx hZ8 e9 Ar10 (j := (2:Int32)) hin10 (g := (mkF m 105 #[iv i0, .val (.long i1), .second, iv (0:Int32), rv b1_0, rv b2_0, rv b8_0, rv b9, un] [(.int (1:Int32)), (.int (2:Int32)), (.ref b9)])) rfl rfl (hb hby at_105)
  have g12 : n0 ≤ b9 := Nat.le_trans (Nat.le_trans (Nat.le_of_eq O_K8.1.symm) O_K8.2.1) (Nat.le_of_eq g9.symm)
  have O_W10 : Old Z n0 h10 := O_E9.wr W10 g12
  have c_W10 := CHr.wr W10 (Safe.ext E9 C_K8.1 (Safe.new (Nat.le_of_eq g9.symm))) C_E9.1
  have C_W10 := C_E9.trans c_W10
  have N14 := Fr.snoc X10 N8 g12
  have f11 : Arv Z h10 b9 k9 .int (3:Int32) [(.int (0:Int32)), (.int (0:Int32)), (.int (1:Int32))] (.int (0:Int32)) := Arv.set Ar10 q10 S10 M10 H10 G10 rfl W10 2 rfl (Nat.le_of_ble_eq_true rfl)
  obtain ⟨cl15, Ar15, _, S15, _, H15, _⟩ := id f11
  have hin15 : ¬ ((0:Int32) < 0 ∨ cl15.slots.size ≤ ((0:Int32)).toNatClampNeg) := inb_of S15 ⟨by decide, by decide⟩
  obtain ⟨cl16, Ar16, _, S16, _, H16, _⟩ := id f11
  have hin16 : ¬ ((2:Int32) < 0 ∨ cl16.slots.size ≤ ((2:Int32)).toNatClampNeg) := inb_of S16 ⟨by decide, by decide⟩
  have f18 := ((f8_2.ext E9).keep1 (ow hw 10 rfl) (Keep.of_wr W10) V9)
  obtain ⟨_, Sx20, st20⟩ := own_rget X10 hx hZ8 f18 e10 hc21 (g := (mkF m 229 #[iv i0, .val (.long i1), .second, iv (0:Int32), rv b1_0, rv b2_0, rv b8_0, rv b9, iv (0:Int32)] [(.int (0:Int32)), (.ref b8_0)])) rfl rfl (hb hby at_229)
  obtain ⟨_, _, _, _, _, _⟩ := Sx20
  obtain ⟨a22, Sx22, st22⟩ := own_rget X10 hx hZ8 f18 e10 hc21 (g := (mkF m 237 #[iv i0, .val (.long i1), .second, iv (0:Int32), rv b1_0, rv b2_0, rv b8_0, rv b9, iv (0:Int32)] [(.int (0:Int32)), (.ref b8_0)])) rfl rfl (hb hby at_237)
  obtain ⟨_, _, Ea22, Fv22, Fc22, Av22⟩ := Sx22
  obtain ⟨_, _, q23a, _, q23c⟩ := isOf hZ8 e10 Ea22
  obtain ⟨_, _, _, X23, hQ23, st23⟩ := fl X10 (X10.virtualBack hx (y := y8) (z := y8) hown8 (mo hZ8 hw 87 rfl) (mo hZ8 hw 42 rfl) (notFace_of_selects (args := #[]) (mo hZ8 hw 44 rfl)) (mo hZ8 hw 44 rfl) (mo hZ8 hw 43 rfl) (by decide) (own_lenB (W := 0) n0 hZ8 hw (ow hw 10 rfl) Ea22 Fv22 Fc22 Av22 (own_gtn (own_gsp own_gt0) _) (B0.ext O_W10.2) B1 (by decide) (by decide)) q23a q23c (g := (mkF m 238 #[iv i0, .val (.long i1), .second, iv (0:Int32), rv b1_0, rv b2_0, rv b8_0, rv b9, iv (0:Int32)] [(.ref a22)])) rfl (by rw [hml]; rfl) (Steps.refl _) (argsL := []) (rest := []) (lenOf pd23 rfl) rfl wf (hb hby at_238) (fun _ _ => ⟨rfl, e10, (by decide : 19 + 0 ≤ _), (by decide : 90 + 0 ≤ _)⟩))
  obtain ⟨rfl, N23q, e23⟩ := hQ23
  have N23 := Fr.app N14 N23q
  obtain ⟨cl24, Ar24, _, S24, _, H24, _⟩ := id f11
  have hin24 : ¬ ((1:Int32) < 0 ∨ cl24.slots.size ≤ ((1:Int32)).toNatClampNeg) := inb_of S24 ⟨by decide, by decide⟩
  refine finH (Q := lawQ n0) (rm := room_1) (vm := T8.vm) Bd X23 hZ8 (own_EW hw) C_W10 hh e23 hS8 (Nat.le_trans (Nat.le_trans (Nat.le_refl _) E9.1) (Keep.of_wr W10).1) (some (.int (1:Int32))) nofun ⟨rfl, N23⟩ (by decide) (by decide) fun fs hr => ?_
  show St p e below s₁ m 0 #[iv i0, .val (.long i1), .second, un, un, un, un, un, un] [] _
  refine iN X0 hx hby at_0 rfl ?_
  refine XS.bipush X0.here hx rfl (hb hby at_1) ?_
  refine XS.iushr X0.here hx rfl (hb hby at_3) rfl ?_
  refine XS.bipush X0.here hx rfl (hb hby at_4) ?_
  refine Jvm.RoadKit.iremM (g := (mkF m 6 #[iv i0, .val (.long i1), .second, un, un, un, un, un, un] [(.int (7:Int32)), (.int ((i0.toUInt32 >>> ((6:Int32) &&& 31).toUInt32).toInt32))])) X0 hx rfl (hb hby at_6) rfl (by decide : ¬ ((7:Int32) = (0:Int32))) ?_
  show St p e below s₁ m 7 #[iv i0, .val (.long i1), .second, un, un, un, un, un, un] [(.int (((i0.toUInt32 >>> ((6:Int32) &&& 31).toUInt32).toInt32) % (7:Int32)))] _
  rw [pin0]
  refine XS.istoreN X0.here hx rfl (hb hby at_7) rfl (l' := #[iv i0, .val (.long i1), .second, iv (0:Int32), un, un, un, un, un]) rfl ?_
  refine st1 _ ?_
  refine aL X1 hx hby at_74 rfl rfl ?_
  refine iN X1 hx hby at_76 rfl ?_
  refine st2.trans ?_
  refine XS.astore Y2.here hx rfl (hb hby at_80) rfl rfl (l' := #[iv i0, .val (.long i1), .second, iv (0:Int32), rv b1_0, rv b2_0, un, un, un]) rfl ?_
  refine aL Y2 hx hby at_82 rfl rfl ?_
  refine st8.trans ?_
  refine XS.astore Y8.here hx rfl (hb hby at_87) rfl rfl (l' := #[iv i0, .val (.long i1), .second, iv (0:Int32), rv b1_0, rv b2_0, rv b8_0, un, un]) rfl ?_
  refine aL Y8 hx hby at_89 rfl rfl ?_
  refine XS.ifnonnullYes Y8.here hx rfl (pc0 := 91) (pc' := 96) rfl (hb hby at_91) rfl (by decide) (by decide) ?_
  refine iC Y8 hx hby at_96 ?_
  refine st9 _ ?_
  refine XS.astore X9.here hx rfl (hb hby at_99) rfl rfl (l' := #[iv i0, .val (.long i1), .second, iv (0:Int32), rv b1_0, rv b2_0, rv b8_0, rv b9, un]) rfl ?_
  refine aL X9 hx hby at_101 rfl rfl ?_
  refine iC X9 hx hby at_103 ?_
  refine iC X9 hx hby at_104 ?_
  refine st10 _ ?_
  refine iN X10 hx hby at_106 rfl ?_
  refine XS.ifYes X10.here hx rfl (pc0 := 107) (pc' := 121) rfl (hb hby at_107) rfl ((if0 _ _).trans (flt (by decide : ¬ ((0:Int32) < (0:Int32)))).2.2.2) (by decide) (by decide) ?_
  show St p e below T10 m 121 #[iv i0, .val (.long i1), .second, iv (0:Int32), rv b1_0, rv b2_0, rv b8_0, rv b9, un] [] _
  refine iN X10 hx hby at_121 rfl ?_
  refine iC X10 hx hby at_122 ?_
  refine XS.icmpYes X10.here hx rfl (pc0 := 123) (pc' := 137) rfl (hb hby at_123) rfl (flt (by decide : ¬ ((1:Int32) < (0:Int32)))).2.2.2 (by decide) (by decide) ?_
  refine iN X10 hx hby at_137 rfl ?_
  refine iC X10 hx hby at_138 ?_
  refine XS.icmpYes X10.here hx rfl (pc0 := 139) (pc' := 153) rfl (hb hby at_139) rfl (flt (by decide : ¬ ((2:Int32) < (0:Int32)))).2.2.2 (by decide) (by decide) ?_
  refine iN X10 hx hby at_153 rfl ?_
  refine iC X10 hx hby at_154 ?_
  refine XS.icmpYes X10.here hx rfl (pc0 := 155) (pc' := 169) rfl (hb hby at_155) rfl (flt (by decide : ¬ ((3:Int32) < (0:Int32)))).2.2.2 (by decide) (by decide) ?_
  refine iN X10 hx hby at_169 rfl ?_
  refine iC X10 hx hby at_170 ?_
  refine XS.icmpYes X10.here hx rfl (pc0 := 171) (pc' := 185) rfl (hb hby at_171) rfl (flt (by decide : ¬ ((4:Int32) < (0:Int32)))).2.2.2 (by decide) (by decide) ?_
  refine iN X10 hx hby at_185 rfl ?_
  refine iC X10 hx hby at_186 ?_
  refine XS.icmpYes X10.here hx rfl (pc0 := 187) (pc' := 201) rfl (hb hby at_187) rfl (flt (by decide : ¬ ((5:Int32) < (0:Int32)))).2.2.2 (by decide) (by decide) ?_
  refine aL X10 hx hby at_201 rfl rfl ?_
  refine iC X10 hx hby at_203 ?_
  refine X10.iaload hx (j := (0:Int32)) (v := (.int (0:Int32))) (by rw [e10]; exact Ar15.1) (State.isArrayOf_alike hZ8.alike Ar15.2.1) Ar15.2.2 hin15 (Has.at H15 hin15 rfl) (g := (mkF m 204 #[iv i0, .val (.long i1), .second, iv (0:Int32), rv b1_0, rv b2_0, rv b8_0, rv b9, un] [(.int (0:Int32)), (.ref b9)])) rfl rfl (hb hby at_204) _ ?_
  refine XS.istore X10.here hx rfl (hb hby at_205) rfl (l' := #[iv i0, .val (.long i1), .second, iv (0:Int32), rv b1_0, rv b2_0, rv b8_0, rv b9, iv (0:Int32)]) rfl ?_
  refine aL X10 hx hby at_207 rfl rfl ?_
  refine iC X10 hx hby at_209 ?_
  refine X10.iaload hx (j := (2:Int32)) (v := (.int (1:Int32))) (by rw [e10]; exact Ar16.1) (State.isArrayOf_alike hZ8.alike Ar16.2.1) Ar16.2.2 hin16 (Has.at H16 hin16 rfl) (g := (mkF m 210 #[iv i0, .val (.long i1), .second, iv (0:Int32), rv b1_0, rv b2_0, rv b8_0, rv b9, iv (0:Int32)] [(.int (2:Int32)), (.ref b9)])) rfl rfl (hb hby at_210) _ ?_
  refine iC X10 hx hby at_211 ?_
  refine XS.icmpNo X10.here hx rfl (hb hby at_212) rfl (teq (rfl : (1:Int32) = (1:Int32))).2 ?_
  refine iL X10 hx hby at_215 rfl ?_
  show St p e below T10 m 217 #[iv i0, .val (.long i1), .second, iv (0:Int32), rv b1_0, rv b2_0, rv b8_0, rv b9, iv (0:Int32)] [(.int (0:Int32))] _
  refine aL X10 hx hby at_217 rfl rfl ?_
  refine own_rlen X10 hx hZ8 f18 e10 (g := (mkF m 219 #[iv i0, .val (.long i1), .second, iv (0:Int32), rv b1_0, rv b2_0, rv b8_0, rv b9, iv (0:Int32)] [(.ref b8_0), (.int (0:Int32))])) rfl rfl (hb hby at_219) _ ?_
  refine iC X10 hx hby at_220 ?_
  refine XS.isub X10.here hx rfl (hb hby at_221) rfl ?_
  refine XS.icmpNo X10.here hx rfl (hb hby at_222) rfl (teq hc19).2 ?_
  refine aL X10 hx hby at_225 rfl rfl ?_
  refine iL X10 hx hby at_227 rfl ?_
  refine st20 _ ?_
  refine XS.ifnullNo X10.here hx rfl (hb hby at_230) rfl ?_
  refine aL X10 hx hby at_233 rfl rfl ?_
  refine iL X10 hx hby at_235 rfl ?_
  refine st22 _ ?_
  refine st23.trans ?_
  refine aL X23 hx hby at_241 rfl rfl ?_
  refine iC X23 hx hby at_243 ?_
  refine X23.iaload hx (j := (1:Int32)) (v := (.int (0:Int32))) (by rw [e23]; exact Ar24.1) (State.isArrayOf_alike hZ8.alike Ar24.2.1) Ar24.2.2 hin24 (Has.at H24 hin24 rfl) (g := (mkF m 244 #[iv i0, .val (.long i1), .second, iv (0:Int32), rv b1_0, rv b2_0, rv b8_0, rv b9, iv (0:Int32)] [(.int (1:Int32)), (.ref b9), (.int (own_tn (own_nth (own_sp []) (0:Int32))))])) rfl rfl (hb hby at_244) _ ?_
  refine XS.icmpNo X23.here hx rfl (hb hby at_245) rfl (teq hc25).2 ?_
  refine iC X23 hx hby at_248 ?_
  refine XS.goto X23.here hx rfl (pc0 := 249) (pc' := 253) rfl (hb hby at_249) (by decide) (by decide) ?_
  exact retN X23 hx (t := .boolean) Bd.returns (by simp) (hb hby at_253) hr
theorem d2_7 : dk method_4_code 7 (.iload_n 1) 1 := by decide +kernel
theorem d2_8 : dk method_4_code 8 (.iconst 1) 1 := by decide +kernel
theorem d2_9 : dk method_4_code 9 (.if_icmp .ne 10) 3 := by decide +kernel
theorem d2_12 : dk method_4_code 12 (.aload_n 0) 1 := by decide +kernel
theorem d2_13 : dk method_4_code 13 (.iconst 0) 1 := by decide +kernel
theorem d2_14 : dk method_4_code 14 .caload 1 := by decide +kernel
theorem d2_15 : dk method_4_code 15 (.invokestatic 35) 3 := by decide +kernel
theorem d23_0 : dk cJ42_139 0 (.getstatic 38) 3 := by decide +kernel
theorem d23_3 : dk cJ42_139 3 (.ifCond .eq 23) 3 := by decide +kernel
theorem d23_6 : dk cJ42_139 6 (.iload_n 0) 1 := by decide +kernel
theorem d23_7 : dk cJ42_139 7 (.invokestatic 1015) 3 := by decide +kernel
theorem d24_0 : dk jdk_43_method_3_code 0 (.iload_n 0) 1 := by decide +kernel
theorem d24_1 : dk jdk_43_method_3_code 1 (.sipush 255) 3 := by decide +kernel
theorem d24_4 : dk jdk_43_method_3_code 4 (.if_icmp .gt 7) 3 := by decide +kernel
theorem d24_7 : dk jdk_43_method_3_code 7 (.iconst 1) 1 := by decide +kernel
theorem d24_8 : dk jdk_43_method_3_code 8 (.goto 4) 3 := by decide +kernel
theorem d24_12 : dk jdk_43_method_3_code 12 .ireturn 1 := by decide +kernel
abbrev y24 : MethodName := ⟨"java/lang/StringLatin1", "canEncode", "(C)Z"⟩
def r24_1Q (Z : State) (p1:Int32) (h0 : Heap) (n0 : Nat) : QT := fun v h L => v = some (.int (1:Int32)) ∧ Fr n0 L ∧ h = h0
theorem r24_1 (l : Launch) (Z : State) (a0 : Array Value) (hw : HW a0 Z) (ws : List Jvm.Cond) (p1:Int32) (h0 : Heap) (n0 : Nat) (O0 : Old Z n0 h0) (hc2 : ¬ ((255:Int32) < p1)) :
    MF l y24 jdk_43_method_3_code 1 (some .boolean) ws (rM 0 0 0 0) Z #[(.int p1)] h0 (r24_1Q Z p1 h0 n0) := by
  refine own_in (pq pn3) #[iv p1] (fun _ => by first | (simp [entryFrame, mkF, argsToLocals, Value.category]; done) | rfl) ?_
  intro p e s m below meth c s₁ Bd hx hby hml hown hnm hZ e0 X0
  have N0 := Fr.nil n0
  refine fin (Q := r24_1Q Z p1 h0 n0) (rm := (rM 0 0 0 0)) Bd X0 e0 (some (.int (1:Int32))) nofun ⟨rfl, N0, rfl⟩ (by decide) (by decide) fun fs hr => ?_
  show St p e below s₁ m 0 #[iv p1] [] _
  refine iN X0 hx hby d24_0 rfl ?_
  refine XS.sipush X0.here hx rfl (hb hby d24_1) ?_
  refine XS.icmpNo X0.here hx rfl (hb hby d24_4) rfl (flt hc2).2.2.1 ?_
  refine iC X0 hx hby d24_7 ?_
  refine XS.goto X0.here hx rfl (pc0 := 8) (pc' := 12) rfl (hb hby d24_8) (by decide) (by decide) ?_
  exact retN X0 hx (t := .boolean) Bd.returns (by simp) (hb hby d24_12) hr
theorem pd20 : parseMethodDescriptor "(C)Z" = some ⟨[.char], some .boolean⟩ := by decide +kernel
theorem d23_10 : dk cJ42_139 10 (.ifCond .eq 16) 3 := by decide +kernel
theorem d23_13 : dk cJ42_139 13 (.new 10) 3 := by decide +kernel
theorem d23_16 : dk cJ42_139 16 .dup 1 := by decide +kernel
theorem d23_17 : dk cJ42_139 17 (.iload_n 0) 1 := by decide +kernel
theorem d23_18 : dk cJ42_139 18 (.invokestatic 1018) 3 := by decide +kernel
theorem d25_0 : dk cJ43_46 0 (.iconst 1) 1 := by decide +kernel
theorem d25_1 : dk cJ43_46 1 (.newarray .byte) 2 := by decide +kernel
theorem d25_3 : dk cJ43_46 3 .dup 1 := by decide +kernel
theorem d25_4 : dk cJ43_46 4 (.iconst 0) 1 := by decide +kernel
theorem d25_5 : dk cJ43_46 5 (.iload_n 0) 1 := by decide +kernel
theorem d25_6 : dk cJ43_46 6 .i2b 1 := by decide +kernel
theorem d25_7 : dk cJ43_46 7 .bastore 1 := by decide +kernel
theorem d25_8 : dk cJ43_46 8 .areturn 1 := by decide +kernel
abbrev y25 : MethodName := ⟨"java/lang/StringLatin1", "toBytes", "(C)[B"⟩
def r25_1Q (Z : State) (p1:Int32) (h0 : Heap) (n0 : Nat) : QT := fun v h L => ∃ (b2 : Addr) (k2 : ClassId), v = some (.ref b2) ∧ Fr n0 L ∧ Keep h0 h [] ∧ h0.size ≤ b2 ∧ Arv Z h b2 k2 .byte (1:Int32) [(.int (p1.toInt8.toInt32))] (.int (0:Int32)) ∧ xE4 Z h b2
theorem r25_1 (l : Launch) (Z : State) (a0 : Array Value) (hw : HW a0 Z) (ws : List Jvm.Cond) (p1:Int32) (h0 : Heap) (n0 : Nat) (O0 : Old Z n0 h0) :
    MF l y25 cJ43_46 1 (some (.array .byte)) ws (rM 0 1 1 0) Z #[(.int p1)] h0 (r25_1Q Z p1 h0 n0) := by
  refine own_in (pq pn3) #[iv p1] (fun _ => by first | (simp [entryFrame, mkF, argsToLocals, Value.category]; done) | rfl) ?_
  intro p e s m below meth c s₁ Bd hx hby hml hown hnm hZ e0 X0
  have N0 := Fr.nil n0
  obtain ⟨_, h2, k2, X2, e2, E2, A2, C2, st2⟩ := newPE X0 hx hZ (aty := .byte) (ow hw 11 rfl) e0 (g := (mkF m 1 #[iv p1] [(.int (1:Int32))])) rfl (hb hby d25_1) rfl (by decide) (cap := 1) (by decide) (by decide) (by decide) (by decide) (ad := "[B") (by decide)
  obtain ⟨b2, g2⟩ : ∃ z, z = h0.size := ⟨_, rfl⟩
  rw [← g2] at A2 C2 st2
  have Kp_E2 : Keep h0 h2 [] := (Keep.refl h0 []).ext E2
  have V2 : Arv Z h2 b2 k2 .byte (1:Int32) [(.int (0:Int32))] (.int (0:Int32)) := (Arv.new A2 (by decide)).pad (pad_rep [] (.int (0:Int32)) 1)
  obtain ⟨cl3, Ar3, q3, S3, M3, H3, G3⟩ := id V2
  have hin3 : ¬ ((0:Int32) < 0 ∨ cl3.slots.size ≤ ((0:Int32)).toNatClampNeg) := inb_of S3 ⟨by decide, by decide⟩
  obtain ⟨_, h3, X3, e3, W3, st3⟩ := stB X2 hx hZ e2 Ar3 (j := (0:Int32)) hin3 (g := (mkF m 7 #[iv p1] [(.int (p1.toInt8.toInt32)), (.int (0:Int32)), (.ref b2), (.ref b2)])) rfl rfl (hb hby d25_7)
  have g5 : n0 ≤ b2 := Nat.le_trans (Nat.le_trans (Nat.le_of_eq O0.1.symm) O0.2.1) (Nat.le_of_eq g2.symm)
  have z6 : h0.size ≤ b2 := Nat.le_trans (Keep.refl h0 []).1 (Nat.le_of_eq g2.symm)
  have Kp_W3 : Keep h0 h3 [] := Kp_E2.wr W3 (Or.inr z6)
  have N7 := Fr.snoc X3 N0 g5
  have f4 : Arv Z h3 b2 k2 .byte (1:Int32) [(.int (p1.toInt8.toInt32))] (.int (0:Int32)) := by simpa only [own_narb, own_i8, List.set] using Arv.set Ar3 q3 S3 M3 H3 G3 (fits_nar_byte _) W3 0 rfl (Nat.le_of_ble_eq_true rfl)
  have f8 := (C2.wr W3)
  refine fin (Q := r25_1Q Z p1 h0 n0) (rm := (rM 0 1 1 0)) Bd X3 e3 (some (.ref b2)) nofun ⟨b2, k2, rfl, N7, Kp_W3, z6, f4, f8⟩ (by decide) (by decide) fun fs hr => ?_
  show St p e below s₁ m 0 #[iv p1] [] _
  refine iC X0 hx hby d25_0 ?_
  refine st2 _ ?_
  refine XS.dup X2.here hx rfl (hb hby d25_3) rfl rfl ?_
  refine iC X2 hx hby d25_4 ?_
  refine iN X2 hx hby d25_5 rfl ?_
  refine XS.i2b X2.here hx rfl (hb hby d25_6) rfl ?_
  refine st3 _ ?_
  exact retA X3 hx Bd.returns rfl rfl (hb hby d25_8) hr
theorem pd16 : parseMethodDescriptor "(C)[B" = some ⟨[.char], some (.array .byte)⟩ := by decide +kernel
theorem d23_21 : dk cJ42_139 21 (.iconst 0) 1 := by decide +kernel
theorem d23_22 : dk cJ42_139 22 (.invokespecial 209) 3 := by decide +kernel
theorem d23_25 : dk cJ42_139 25 .areturn 1 := by decide +kernel
abbrev y23 : MethodName := ⟨"java/lang/String", "valueOf", "(C)Ljava/lang/String;"⟩
def r23_1Q (Z : State) (p1 p2:Int32) (h0 : Heap) (n0 : Nat) : QT := fun v h L => ∃ (b8 b9_0 : Addr) (k9_0 : ClassId), v = some (.ref b8) ∧ Fr n0 L ∧ Keep h0 h [] ∧ h0.size ≤ b8 ∧ h0.size ≤ b9_0 ∧ b8 ≠ b9_0 ∧ xE1 Z h b8 ∧ xF3 Z h b8 (.ref b9_0) ∧ xF2 Z h b8 (.int (0:Int32)) ∧ Arv Z h b9_0 k9_0 .byte (1:Int32) [(.int (p1.toInt8.toInt32))] (.int (0:Int32)) ∧ xE4 Z h b9_0
theorem r23_1 (l : Launch) (Z : State) (a0 : Array Value) (hw : HW a0 Z) (ws : List Jvm.Cond) (p1 p2:Int32) (h0 : Heap) (n0 : Nat) (O0 : Old Z n0 h0) (H3 : Sta Z Z.heap "java/lang/String" "COMPACT_STRINGS" "Z" (.int p2)) (hc5 : ¬ (p2 = (0:Int32))) (hc6 : ¬ ((255:Int32) < p1)) :
    MF l y23 cJ42_139 1 (some (.object "java/lang/String")) ws (rM 2 2 5 27) Z #[(.int p1)] h0 (r23_1Q Z p1 p2 h0 n0) := by
  refine own_in (pq pn5) #[iv p1] (fun _ => by first | (simp [entryFrame, mkF, argsToLocals, Value.category]; done) | rfl) ?_
  intro p e s m below meth c s₁ Bd hx hby hml hown hnm hZ e0 X0
  have N0 := Fr.nil n0
  obtain ⟨_, X4, e4, st4⟩ := getS2 X0 hx hZ hown (host := "") (Or.inl (ow hw 38 rfl)) Via.refl e0 (H3.ext O0.2) (g := (mkF m 0 #[iv p1] [])) rfl (hb hby d23_0)
  obtain ⟨_, _, _, X7, hQ7, st7⟩ := cS X4 hx hZ hw hown (y := y24) 91 rfl 92 rfl 53 rfl 93 rfl (by decide) (W := 0) (r24_1 l Z a0 hw [] p1 h0 n0 O0 hc6) (by decide) (by decide) e4 (g := (mkF m 7 #[iv p1] [(.int p1)])) rfl (by rw [hml]; rfl) (argsL := [(.int p1)]) (rest := []) (lenOf pd20 rfl) rfl wf (hb hby d23_7) rfl (by decide) (by decide)
  obtain ⟨rfl, N7q, e7⟩ := hQ7
  have N7 := Fr.app N0 N7q
  obtain ⟨_, h8, X8, e8, E8, A8, D8, -, st8⟩ := newO X7 hx hZ hown (ow hw 94 rfl) (ow hw 10 rfl) (ow hw 9 rfl) e7 (g := (mkF m 13 #[iv p1] [])) rfl (hb hby d23_13) (by decide) (by decide)
  obtain ⟨b8, g8⟩ : ∃ z, z = h0.size := ⟨_, rfl⟩
  rw [← g8] at A8 D8 st8
  have O_E8 : Old Z n0 h8 := O0.ext E8
  have Kp_E8 : Keep h0 h8 [] := (Keep.refl h0 []).ext E8
  obtain ⟨T9, _, _, X9, hQ9, st9⟩ := cS X8 hx hZ hw hown (y := y25) 95 rfl 96 rfl 53 rfl 97 rfl (by decide) (W := 2) (r25_1 l Z a0 hw [] p1 h8 n0 O_E8) (by decide) (by decide) e8 (g := (mkF m 18 #[iv p1] [(.int p1), (.ref b8), (.ref b8)])) rfl (by rw [hml]; rfl) (argsL := [(.int p1)]) (rest := [(.ref b8), (.ref b8)]) (lenOf pd16 rfl) rfl wf (hb hby d23_18) rfl (by decide) (by decide)
  obtain ⟨b9_0, k9_0, rfl, N9q, K9, lo9_1, f9_2, f9_3⟩ := hQ9
  have N9 := Fr.app N7 N9q
  have O_K9 : Old Z n0 T9.heap := O_E8.keep K9 all0
  have Kp_K9 : Keep h0 T9.heap [] := Kp_E8.trans K9 all0
  have f10 : xF3 Z h8 b8 .null := D8 (Or.inr (ow hw 12 rfl)) (ty := (.array .byte)) (by decide)
  have f11 := (f10.keep K9 nin0)
  have f12 := (A8.keep K9)
  have g13 : n0 ≤ b8 := Nat.le_trans (Nat.le_trans (Nat.le_of_eq O0.1.symm) O0.2.1) (Nat.le_of_eq g8.symm)
  have f14 : xF2 Z h8 b8 (.int (0:Int32)) := D8 (Or.inr (ow hw 13 rfl)) (ty := .byte) (by decide)
  have f15 := (f14.keep K9 nin0)
  obtain ⟨T16, _, _, X16, hQ16, st16⟩ := cP X9 hx hZ hw hown (y := y22) rfl 98 rfl 99 rfl 100 rfl 9 rfl (by decide) (W := 1) (r22_1 l Z a0 hw [] b8 b9_0 T9.heap n0 O_K9 f11 f12 g13 f15) (by decide) (by decide) rfl (g := (mkF m 22 #[iv p1] [(.int (0:Int32)), (.ref b9_0), (.ref b8), (.ref b8)])) rfl (by rw [hml]; rfl) (argsL := [(.ref b9_0), (.int (0:Int32))]) (rest := [(.ref b8)]) (lenOf pd13 rfl) rfl wf (hb hby d23_22) rfl (by decide) (by decide)
  obtain ⟨rfl, N16q, K16, f16_1, f16_2, f16_3⟩ := hQ16
  have N16 := Fr.app N9 N16q
  have z17 : h0.size ≤ b8 := Nat.le_trans (Keep.refl h0 []).1 (Nat.le_of_eq g8.symm)
  have Kp_K16 : Keep h0 T16.heap [] := Kp_K9.trans K16 (allS (Or.inr z17) all0)
  have z18 : h0.size ≤ b9_0 := Nat.le_trans Kp_E8.1 lo9_1
  have ne19 : b8 ≠ b9_0 := Nat.ne_of_lt (Nat.lt_of_lt_of_le A8.lt lo9_1)
  have f20 := (f9_2.keep K16 (ninS (Ne.symm ne19) nin0))
  have f21 := (f9_3.keep K16)
  refine fin (Q := r23_1Q Z p1 p2 h0 n0) (rm := (rM 2 2 5 27)) Bd X16 rfl (some (.ref b8)) nofun ⟨b8, b9_0, k9_0, rfl, N16, Kp_K16, z17, z18, ne19, f16_2, f16_1, f16_3, f20, f21⟩ (by decide) (by decide) fun fs hr => ?_
  show St p e below s₁ m 0 #[iv p1] [] _
  refine st4 _ ?_
  refine XS.ifNo X4.here hx rfl (hb hby d23_3) rfl ((if0 _ _).trans (feq hc5).1) ?_
  refine iN X4 hx hby d23_6 rfl ?_
  refine st7 _ ?_
  refine XS.ifNo X7.here hx rfl (hb hby d23_10) rfl ((if0 _ _).trans (feq (by decide : ¬ ((1:Int32) = (0:Int32)))).1) ?_
  refine st8 _ ?_
  refine XS.dup X8.here hx rfl (hb hby d23_16) rfl rfl ?_
  refine iN X8 hx hby d23_17 rfl ?_
  refine st9 _ ?_
  refine iC X9 hx hby d23_21 ?_
  refine st16.trans ?_
  exact retA X16 hx Bd.returns rfl rfl (hb hby d23_25) hr
theorem pd8 : parseMethodDescriptor "(C)Ljava/lang/String;" = some ⟨[.char], some (.object "java/lang/String")⟩ := by decide +kernel
theorem d2_18 : dk method_4_code 18 .areturn 1 := by decide +kernel
def r2_2Q (Z : State) (a1 : Addr) (k2 : ClassId) (p3 p4 p5 p6 p7 p8 p11:Int32) (h0 : Heap) (n0 : Nat) : QT := fun v h L => own_strQ Z [p3] h0 n0 v h L
theorem r2_2 (l : Launch) (Z : State) (a0 : Array Value) (hw : HW a0 Z) (ws : List Jvm.Cond) (a1 : Addr) (k2 : ClassId) (p3 p4 p5 p6 p7 p8 p11:Int32) (h0 : Heap) (n0 : Nat) (O0 : Old Z n0 h0) (H9 : Arv Z h0 a1 k2 .char (6:Int32) [(.int p3), (.int p4), (.int p5), (.int p6), (.int p7), (.int p8)] (.int (0:Int32))) (H12 : Sta Z Z.heap "java/lang/String" "COMPACT_STRINGS" "Z" (.int p11)) (hc13 : ¬ (p11 = (0:Int32))) (hc14 : ¬ ((255:Int32) < p3)) (H16 : nar .char p3 = p3) :
    MFH l y2 method_4_code 2 (some (.object "java/lang/String")) ws (rM 3 2 5 39) Z #[(.ref a1), (.int (1:Int32))] h0 (r2_2Q Z a1 k2 p3 p4 p5 p6 p7 p8 p11 h0 n0) := by
  refine own_inH (pq pn0) #[rv a1, iv (1:Int32)] (fun _ => by first | (simp [entryFrame, mkF, argsToLocals, Value.category]; done) | rfl) ?_
  intro p e s m below meth c s₁ Bd hx hby hml hown hnm hZ hh C0 e0 X0
  have N0 := Fr.nil n0
  obtain ⟨cl10, Ar10, _, S10, _, H10, _⟩ := id H9
  have hin10 : ¬ ((0:Int32) < 0 ∨ cl10.slots.size ≤ ((0:Int32)).toNatClampNeg) := inb_of S10 ⟨by decide, by decide⟩
  obtain ⟨T15, _, _, X15, hQ15, st15⟩ := cS X0 hx hZ hw hown (y := y23) 88 rfl 89 rfl 9 rfl 90 rfl (by decide) (W := 0) (r23_1 l Z a0 hw [] p3 p11 h0 n0 O0 H12 hc13 hc14) (by decide) (by decide) e0 (g := (mkF m 15 #[rv a1, iv (1:Int32)] [(.int p3)])) rfl (by rw [hml]; rfl) (argsL := [(.int p3)]) (rest := []) (lenOf pd8 rfl) rfl wf (hb hby d2_15) rfl (by decide) (by decide)
  obtain ⟨b15_0, b15_1, k15_0, rfl, N15q, K15, _, _, _, f15_4, f15_5, f15_6, f15_7, _⟩ := hQ15
  have N15 := Fr.app N0 N15q
  have Kp_K15 : Keep h0 T15.heap [] := (Keep.refl h0 []).trans K15 all0
  have c_K15 := CHr.keep K15 all0 C0.1
  have C_K15 := C0.trans c_K15
  refine finH (Q := r2_2Q Z a1 k2 p3 p4 p5 p6 p7 p8 p11 h0 n0) (rm := (rM 3 2 5 39)) (vm := s.vm) Bd X15 hZ (own_EW hw) C_K15 hh rfl (State.WarmedH.since (State.WarmedH.refl s) 0) (Nat.zero_le _) (some (.ref b15_0)) nofun ⟨b15_0, b15_1, k15_0, rfl, N15, Kp_K15, f15_4, f15_5, f15_6, f15_7⟩ (by decide) (by decide) fun fs hr => ?_
  show St p e below s₁ m 0 #[rv a1, iv (1:Int32)] [] _
  refine iN X0 hx hby d2_0 rfl ?_
  refine XS.ifYes X0.here hx rfl (pc0 := 1) (pc' := 7) rfl (hb hby d2_1) rfl ((if0 _ _).trans (feq (by decide : ¬ ((1:Int32) = (0:Int32)))).2) (by decide) (by decide) ?_
  refine iN X0 hx hby d2_7 rfl ?_
  refine iC X0 hx hby d2_8 ?_
  refine XS.icmpNo X0.here hx rfl (hb hby d2_9) rfl (teq (rfl : (1:Int32) = (1:Int32))).2 ?_
  refine aN X0 hx hby d2_12 rfl rfl ?_
  refine iC X0 hx hby d2_13 ?_
  refine X0.caload hx (j := (0:Int32)) (v := (.int p3)) (by rw [e0]; exact Ar10.1) (State.isArrayOf_alike hZ.alike Ar10.2.1) Ar10.2.2 hin10 (Has.at H10 hin10 rfl) (g := (mkF m 14 #[rv a1, iv (1:Int32)] [(.int (0:Int32)), (.ref a1)])) rfl rfl (hb hby d2_14) _ ?_
  refine st15 _ ?_
  exact retA X15 hx Bd.returns rfl rfl (hb hby d2_18) hr
theorem d26_0 : dk method_5_code 0 (.aload_n 1) 1 := by decide +kernel
theorem d26_1 : dk method_5_code 1 (.iconst 0) 1 := by decide +kernel
theorem d26_2 : dk method_5_code 2 .iaload 1 := by decide +kernel
theorem d26_3 : dk method_5_code 3 (.istore_n 3) 1 := by decide +kernel
theorem d26_4 : dk method_5_code 4 (.aload_n 1) 1 := by decide +kernel
theorem d26_5 : dk method_5_code 5 (.iconst 1) 1 := by decide +kernel
theorem d26_6 : dk method_5_code 6 .iaload 1 := by decide +kernel
theorem d26_7 : dk method_5_code 7 (.istore 4) 2 := by decide +kernel
theorem d26_9 : dk method_5_code 9 (.iload_n 3) 1 := by decide +kernel
theorem d26_10 : dk method_5_code 10 (.aload_n 0) 1 := by decide +kernel
theorem d26_11 : dk method_5_code 11 .arraylength 1 := by decide +kernel
theorem d26_12 : dk method_5_code 12 (.if_icmp .ge 9) 3 := by decide +kernel
theorem d26_15 : dk method_5_code 15 (.aload_n 0) 1 := by decide +kernel
theorem d26_16 : dk method_5_code 16 (.iload_n 3) 1 := by decide +kernel
theorem d26_17 : dk method_5_code 17 .aaload 1 := by decide +kernel
theorem d26_18 : dk method_5_code 18 (.ifnonnull 8) 3 := by decide +kernel
theorem d26_26 : dk method_5_code 26 (.iload_n 2) 1 := by decide +kernel
theorem d26_27 : dk method_5_code 27 (.bipush 44) 2 := by decide +kernel
theorem d26_29 : dk method_5_code 29 (.if_icmp .ne 31) 3 := by decide +kernel
theorem d26_32 : dk method_5_code 32 (.aload_n 0) 1 := by decide +kernel
theorem d26_33 : dk method_5_code 33 (.iload_n 3) 1 := by decide +kernel
theorem d26_34 : dk method_5_code 34 .aaload 1 := by decide +kernel
theorem d26_35 : dk method_5_code 35 (.invokevirtual 27) 3 := by decide +kernel
theorem d26_38 : dk method_5_code 38 (.iload 4) 2 := by decide +kernel
theorem d26_40 : dk method_5_code 40 (.if_icmp .eq 7) 3 := by decide +kernel
theorem d26_47 : dk method_5_code 47 (.aload_n 1) 1 := by decide +kernel
theorem d26_48 : dk method_5_code 48 (.iconst 0) 1 := by decide +kernel
theorem d26_49 : dk method_5_code 49 (.iload_n 3) 1 := by decide +kernel
theorem d26_50 : dk method_5_code 50 (.iconst 1) 1 := by decide +kernel
theorem d26_51 : dk method_5_code 51 .iadd 1 := by decide +kernel
theorem d26_52 : dk method_5_code 52 .iastore 1 := by decide +kernel
theorem d26_53 : dk method_5_code 53 (.aload_n 1) 1 := by decide +kernel
theorem d26_54 : dk method_5_code 54 (.iconst 1) 1 := by decide +kernel
theorem d26_55 : dk method_5_code 55 (.iconst 0) 1 := by decide +kernel
theorem d26_56 : dk method_5_code 56 .iastore 1 := by decide +kernel
theorem d26_57 : dk method_5_code 57 (.goto 37) 3 := by decide +kernel
theorem d26_94 : dk method_5_code 94 .return_ 1 := by decide +kernel
theorem d26_60 : dk method_5_code 60 (.iload 4) 2 := by decide +kernel
theorem d26_62 : dk method_5_code 62 (.aload_n 0) 1 := by decide +kernel
theorem d26_63 : dk method_5_code 63 (.iload_n 3) 1 := by decide +kernel
theorem d26_64 : dk method_5_code 64 .aaload 1 := by decide +kernel
theorem d26_65 : dk method_5_code 65 (.invokevirtual 27) 3 := by decide +kernel
theorem d26_68 : dk method_5_code 68 (.if_icmp .ge 15) 3 := by decide +kernel
theorem d26_71 : dk method_5_code 71 (.aload_n 0) 1 := by decide +kernel
theorem d26_72 : dk method_5_code 72 (.iload_n 3) 1 := by decide +kernel
theorem d26_73 : dk method_5_code 73 .aaload 1 := by decide +kernel
theorem d26_74 : dk method_5_code 74 (.iload 4) 2 := by decide +kernel
theorem d26_76 : dk method_5_code 76 (.invokevirtual 42) 3 := by decide +kernel
theorem pd21 : parseMethodDescriptor "(I)C" = some ⟨[.int], some .char⟩ := by decide +kernel
abbrev y27 : MethodName := ⟨"java/lang/String", "charAt", "(I)C"⟩
theorem d26_79 : dk method_5_code 79 (.iload_n 2) 1 := by decide +kernel
theorem d26_80 : dk method_5_code 80 (.if_icmp .eq 7) 3 := by decide +kernel
theorem d26_87 : dk method_5_code 87 (.aload_n 1) 1 := by decide +kernel
theorem d26_88 : dk method_5_code 88 (.iconst 1) 1 := by decide +kernel
theorem d26_89 : dk method_5_code 89 (.iload 4) 2 := by decide +kernel
theorem d26_91 : dk method_5_code 91 (.iconst 1) 1 := by decide +kernel
theorem d26_92 : dk method_5_code 92 .iadd 1 := by decide +kernel
theorem d26_93 : dk method_5_code 93 .iastore 1 := by decide +kernel
abbrev xE6 (Z : State) (h : Heap) (a : Addr) : Prop := Exa Z h a "[I"
abbrev y26 : MethodName := ⟨"com/example/novation/novation/CsvFieldsPinLaw", "step", "([Ljava/lang/String;[IC)V"⟩
def r26_1Q (Z : State) (a1 a2 : Addr) (p3:Int32) (k5 : ClassId) (p6 p7:Int32) (c11 : List (List Int32)) (p18:Int32) (h0 : Heap) (n0 : Nat) : QT := fun v h L => own_stepQ Z a2 k5 p6 p7 p3 h0 n0 v h L
theorem r26_1 (l : Launch) (Z : State) (a0 : Array Value) (hw : HW a0 Z) (ws : List Jvm.Cond) (a1 a2 : Addr) (p3:Int32) (k5 : ClassId) (p6 p7:Int32) (c11 : List (List Int32)) (p18:Int32) (h0 : Heap) (n0 : Nat) (O0 : Old Z n0 h0) (H8 : Arv Z h0 a2 k5 .int (3:Int32) [(.int p6), (.int p7), (.int (1:Int32))] (.int (0:Int32))) (H12 : own_Rows Z h0 a1 c11) (hc13 : p6 < (own_n2 c11)) (hc15 : own_inb c11 p6) (hc16 : p3 = (44:Int32)) (H19 : Sta Z Z.heap "java/lang/String" "COMPACT_STRINGS" "Z" (.int p18)) (hc20 : ¬ (p18 = (0:Int32))) (H21 : own_GS c11) (hc23 : (own_tn (own_nth c11 p6)) = p7) (H26 : n0 ≤ a2) (H31 : xE6 Z h0 a2) :
    MF l y26 method_5_code 5 none ws (rM 4 0 0 53) Z #[(.ref a1), (.ref a2), (.int p3)] h0 (r26_1Q Z a1 a2 p3 k5 p6 p7 c11 p18 h0 n0) := by
  refine own_in (pq pn0) #[rv a1, rv a2, iv p3, un, un] (fun _ => by first | (simp [entryFrame, mkF, argsToLocals, Value.category]; done) | rfl) ?_
  intro p e s m below meth c s₁ Bd hx hby hml hown hnm hZ e0 X0
  have N0 := Fr.nil n0
  obtain ⟨cl4, Ar4, _, S4, _, H4, _⟩ := id H8
  have hin4 : ¬ ((0:Int32) < 0 ∨ cl4.slots.size ≤ ((0:Int32)).toNatClampNeg) := inb_of S4 ⟨by decide, by decide⟩
  obtain ⟨cl9, Ar9, _, S9, _, H9, _⟩ := id H8
  have hin9 : ¬ ((1:Int32) < 0 ∨ cl9.slots.size ≤ ((1:Int32)).toNatClampNeg) := inb_of S9 ⟨by decide, by decide⟩
  obtain ⟨_, Sx14, st14⟩ := own_rget X0 hx hZ H12 e0 hc15 (g := (mkF m 17 #[rv a1, rv a2, iv p3, iv p6, iv p7] [(.int p6), (.ref a1)])) rfl rfl (hb hby d26_17)
  obtain ⟨_, _, _, _, _, _⟩ := Sx14
  obtain ⟨a17, Sx17, st17⟩ := own_rget X0 hx hZ H12 e0 hc15 (g := (mkF m 34 #[rv a1, rv a2, iv p3, iv p6, iv p7] [(.int p6), (.ref a1)])) rfl rfl (hb hby d26_34)
  obtain ⟨_, _, Ea17, Fv17, Fc17, Av17⟩ := Sx17
  obtain ⟨_, _, q22a, _, q22c⟩ := isOf hZ e0 Ea17
  obtain ⟨T22, _, _, X22, hQ22, st22⟩ := fl X0 (X0.virtualBack hx (y := y8) (z := y8) hown (mo hZ hw 87 rfl) (mo hZ hw 42 rfl) (notFace_of_selects (args := #[]) (mo hZ hw 44 rfl)) (mo hZ hw 44 rfl) (mo hZ hw 43 rfl) (by decide) (own_lenB (W := 0) n0 hZ hw (ow hw 10 rfl) Ea17 Fv17 Fc17 Av17 (own_gtn H21 _) (H19.ext O0.2) hc20 (by decide) (by decide)) q22a q22c (g := (mkF m 35 #[rv a1, rv a2, iv p3, iv p6, iv p7] [(.ref a17)])) rfl (by rw [hml]; rfl) (Steps.refl _) (argsL := []) (rest := []) (lenOf pd23 rfl) rfl wf (hb hby d26_35) (fun _ _ => ⟨rfl, e0, (by decide : 0 + 0 ≤ _), (by decide : 0 + 0 ≤ _)⟩))
  obtain ⟨rfl, N22q, e22⟩ := hQ22
  have N22 := Fr.app N0 N22q
  obtain ⟨cl24, Ar24, q24, S24, M24, H24, G24⟩ := id H8
  have hin24 : ¬ ((0:Int32) < 0 ∨ cl24.slots.size ≤ ((0:Int32)).toNatClampNeg) := inb_of S24 ⟨by decide, by decide⟩
  obtain ⟨_, h24, X24, e24, W24, st24⟩ := stI X22 hx hZ e22 Ar24 (j := (0:Int32)) hin24 (g := (mkF m 52 #[rv a1, rv a2, iv p3, iv p6, iv p7] [(.int (p6 + (1:Int32))), (.int (0:Int32)), (.ref a2)])) rfl rfl (hb hby d26_52)
  have Kp_W24 : Keep h0 h24 [a2] := (Keep.refl h0 [a2]).wr W24 (mI 0 rfl)
  have N27 := Fr.snoc X24 N22 H26
  have f25 : Arv Z h24 a2 k5 .int (3:Int32) [(.int (p6 + (1:Int32))), (.int p7), (.int (1:Int32))] (.int (0:Int32)) := Arv.set Ar24 q24 S24 M24 H24 G24 rfl W24 0 rfl (Nat.le_of_ble_eq_true rfl)
  obtain ⟨cl28, Ar28, q28, S28, M28, H28, G28⟩ := id f25
  have hin28 : ¬ ((1:Int32) < 0 ∨ cl28.slots.size ≤ ((1:Int32)).toNatClampNeg) := inb_of S28 ⟨by decide, by decide⟩
  obtain ⟨T28, h28, X28, e28, W28, st28⟩ := stI X24 hx hZ e24 Ar28 (j := (1:Int32)) hin28 (g := (mkF m 56 #[rv a1, rv a2, iv p3, iv p6, iv p7] [(.int (0:Int32)), (.int (1:Int32)), (.ref a2)])) rfl rfl (hb hby d26_56)
  have Kp_W28 : Keep h0 h28 [a2] := Kp_W24.wr W28 (mI 0 rfl)
  have N30 := Fr.snoc X28 N27 H26
  have f29 : Arv Z h28 a2 k5 .int (3:Int32) [(.int (p6 + (1:Int32))), (.int (0:Int32)), (.int (1:Int32))] (.int (0:Int32)) := Arv.set Ar28 q28 S28 M28 H28 G28 rfl W28 1 rfl (Nat.le_of_ble_eq_true rfl)
  obtain ⟨_, hr, hrun, hended, hW, hsame⟩ := X28.leave (v := none) (fun _ => rfl)
  refine ⟨_, _, ?_, hrun, hended, _, _, rfl, ?_, ⟨_, rfl⟩, hW, hsame.mono (by decide) (by decide)⟩
  · show St p e below s₁ m 0 #[rv a1, rv a2, iv p3, un, un] [] _
    refine aN X0 hx hby d26_0 rfl rfl ?_
    refine iC X0 hx hby d26_1 ?_
    refine X0.iaload hx (j := (0:Int32)) (v := (.int p6)) (by rw [e0]; exact Ar4.1) (State.isArrayOf_alike hZ.alike Ar4.2.1) Ar4.2.2 hin4 (Has.at H4 hin4 rfl) (g := (mkF m 2 #[rv a1, rv a2, iv p3, un, un] [(.int (0:Int32)), (.ref a2)])) rfl rfl (hb hby d26_2) _ ?_
    refine XS.istoreN X0.here hx rfl (hb hby d26_3) rfl (l' := #[rv a1, rv a2, iv p3, iv p6, un]) rfl ?_
    refine aN X0 hx hby d26_4 rfl rfl ?_
    refine iC X0 hx hby d26_5 ?_
    refine X0.iaload hx (j := (1:Int32)) (v := (.int p7)) (by rw [e0]; exact Ar9.1) (State.isArrayOf_alike hZ.alike Ar9.2.1) Ar9.2.2 hin9 (Has.at H9 hin9 rfl) (g := (mkF m 6 #[rv a1, rv a2, iv p3, iv p6, un] [(.int (1:Int32)), (.ref a2)])) rfl rfl (hb hby d26_6) _ ?_
    refine XS.istore X0.here hx rfl (hb hby d26_7) rfl (l' := #[rv a1, rv a2, iv p3, iv p6, iv p7]) rfl ?_
    refine iN X0 hx hby d26_9 rfl ?_
    refine aN X0 hx hby d26_10 rfl rfl ?_
    refine own_rlen X0 hx hZ H12 e0 (g := (mkF m 11 #[rv a1, rv a2, iv p3, iv p6, iv p7] [(.ref a1), (.int p6)])) rfl rfl (hb hby d26_11) _ ?_
    refine XS.icmpNo X0.here hx rfl (hb hby d26_12) rfl (tlt hc13).2.1 ?_
    refine aN X0 hx hby d26_15 rfl rfl ?_
    refine iN X0 hx hby d26_16 rfl ?_
    refine st14 _ ?_
    refine XS.ifnonnullYes X0.here hx rfl (pc0 := 18) (pc' := 26) rfl (hb hby d26_18) rfl (by decide) (by decide) ?_
    refine iN X0 hx hby d26_26 rfl ?_
    refine XS.bipush X0.here hx rfl (hb hby d26_27) ?_
    refine XS.icmpNo X0.here hx rfl (hb hby d26_29) rfl (teq hc16).2 ?_
    refine aN X0 hx hby d26_32 rfl rfl ?_
    refine iN X0 hx hby d26_33 rfl ?_
    refine st17 _ ?_
    refine st22.trans ?_
    refine iL X22 hx hby d26_38 rfl ?_
    refine XS.icmpYes X22.here hx rfl (pc0 := 40) (pc' := 47) rfl (hb hby d26_40) rfl (teq hc23).1 (by decide) (by decide) ?_
    show St p e below T22 m 47 #[rv a1, rv a2, iv p3, iv p6, iv p7] [] _
    refine aN X22 hx hby d26_47 rfl rfl ?_
    refine iC X22 hx hby d26_48 ?_
    refine iN X22 hx hby d26_49 rfl ?_
    refine iC X22 hx hby d26_50 ?_
    refine XS.iadd X22.here hx rfl (hb hby d26_51) rfl ?_
    refine st24 _ ?_
    refine aN X24 hx hby d26_53 rfl rfl ?_
    refine iC X24 hx hby d26_54 ?_
    refine iC X24 hx hby d26_55 ?_
    refine st28 _ ?_
    refine XS.goto X28.here hx rfl (pc0 := 57) (pc' := 94) rfl (hb hby d26_57) (by decide) (by decide) ?_
    exact X28.returnOut hx Bd.returns (hb hby d26_94) hr
  · show r26_1Q Z a1 a2 p3 k5 p6 p7 c11 p18 h0 n0 _ T28.heap _
    rw [e28]
    exact ⟨rfl, N30, Kp_W28, own_stA hc16 f29⟩
def r26_2Q (Z : State) (a1 a2 : Addr) (p3:Int32) (k5 : ClassId) (p6 p7:Int32) (c11 : List (List Int32)) (p18:Int32) (k25 : Value) (h0 : Heap) (n0 : Nat) : QT := fun v h L => own_stepQ Z a2 k5 p6 p7 p3 h0 n0 v h L
theorem r26_2 (l : Launch) (Z : State) (a0 : Array Value) (hw : HW a0 Z) (ws : List Jvm.Cond) (a1 a2 : Addr) (p3:Int32) (k5 : ClassId) (p6 p7:Int32) (c11 : List (List Int32)) (p18:Int32) (k25 : Value) (h0 : Heap) (n0 : Nat) (O0 : Old Z n0 h0) (H8 : Arv Z h0 a2 k5 .int (3:Int32) [(.int p6), (.int p7), (.int (1:Int32))] (.int (0:Int32))) (H12 : own_Rows Z h0 a1 c11) (hc13 : p6 < (own_n2 c11)) (hc15 : own_inb c11 p6) (hc16 : ¬ (p3 = (44:Int32))) (H19 : Sta Z Z.heap "java/lang/String" "COMPACT_STRINGS" "Z" (.int p18)) (hc20 : ¬ (p18 = (0:Int32))) (H21 : own_GS c11) (hc23 : p7 < (own_tn (own_nth c11 p6))) (H26 : Sta Z Z.heap "jdk/internal/util/Preconditions" "SIOOBE_FORMATTER" "Ljava/util/function/BiFunction;" k25) (H27 : k25.isRef = true) (hc28 : ¬ (p7 < (0:Int32))) (hc29 : p7.toNatClampNeg < (own_nth c11 p6).length) (hc31 : ((own_nth c11 p6).getD p7.toNatClampNeg 0) = p3) (H34 : n0 ≤ a2) (H36 : xE6 Z h0 a2) :
    MF l y26 method_5_code 5 none ws (rM 4 0 0 53) Z #[(.ref a1), (.ref a2), (.int p3)] h0 (r26_2Q Z a1 a2 p3 k5 p6 p7 c11 p18 k25 h0 n0) := by
  refine own_in (pq pn0) #[rv a1, rv a2, iv p3, un, un] (fun _ => by first | (simp [entryFrame, mkF, argsToLocals, Value.category]; done) | rfl) ?_
  intro p e s m below meth c s₁ Bd hx hby hml hown hnm hZ e0 X0
  have N0 := Fr.nil n0
  obtain ⟨cl4, Ar4, _, S4, _, H4, _⟩ := id H8
  have hin4 : ¬ ((0:Int32) < 0 ∨ cl4.slots.size ≤ ((0:Int32)).toNatClampNeg) := inb_of S4 ⟨by decide, by decide⟩
  obtain ⟨cl9, Ar9, _, S9, _, H9, _⟩ := id H8
  have hin9 : ¬ ((1:Int32) < 0 ∨ cl9.slots.size ≤ ((1:Int32)).toNatClampNeg) := inb_of S9 ⟨by decide, by decide⟩
  obtain ⟨_, Sx14, st14⟩ := own_rget X0 hx hZ H12 e0 hc15 (g := (mkF m 17 #[rv a1, rv a2, iv p3, iv p6, iv p7] [(.int p6), (.ref a1)])) rfl rfl (hb hby d26_17)
  obtain ⟨_, _, _, _, _, _⟩ := Sx14
  obtain ⟨a17, Sx17, st17⟩ := own_rget X0 hx hZ H12 e0 hc15 (g := (mkF m 64 #[rv a1, rv a2, iv p3, iv p6, iv p7] [(.int p6), (.ref a1), (.int p7)])) rfl rfl (hb hby d26_64)
  obtain ⟨_, _, Ea17, Fv17, Fc17, Av17⟩ := Sx17
  obtain ⟨_, _, q22a, _, q22c⟩ := isOf hZ e0 Ea17
  obtain ⟨T22, _, _, X22, hQ22, st22⟩ := fl X0 (X0.virtualBack hx (y := y8) (z := y8) hown (mo hZ hw 87 rfl) (mo hZ hw 42 rfl) (notFace_of_selects (args := #[]) (mo hZ hw 44 rfl)) (mo hZ hw 44 rfl) (mo hZ hw 43 rfl) (by decide) (own_lenB (W := 1) n0 hZ hw (ow hw 10 rfl) Ea17 Fv17 Fc17 Av17 (own_gtn H21 _) (H19.ext O0.2) hc20 (by decide) (by decide)) q22a q22c (g := (mkF m 65 #[rv a1, rv a2, iv p3, iv p6, iv p7] [(.ref a17), (.int p7)])) rfl (by rw [hml]; rfl) (Steps.refl _) (argsL := []) (rest := [(.int p7)]) (lenOf pd23 rfl) rfl wf (hb hby d26_65) (fun _ _ => ⟨rfl, e0, (by decide : 0 + 0 ≤ _), (by decide : 0 + 0 ≤ _)⟩))
  obtain ⟨rfl, N22q, e22⟩ := hQ22
  have N22 := Fr.app N0 N22q
  obtain ⟨a24, Sx24, st24⟩ := own_rget X22 hx hZ H12 e22 hc15 (g := (mkF m 73 #[rv a1, rv a2, iv p3, iv p6, iv p7] [(.int p6), (.ref a1)])) rfl rfl (hb hby d26_73)
  obtain ⟨_, _, Ea24, Fv24, Fc24, Av24⟩ := Sx24
  obtain ⟨_, _, q30a, _, q30c⟩ := isOf hZ e22 Ea24
  obtain ⟨_, _, _, X30, hQ30, st30⟩ := fl X22 (X22.virtualBack hx (y := y27) (z := y27) hown (mo hZ hw 110 rfl) (mo hZ hw 111 rfl) (notFace_of_selects (args := #[]) (mo hZ hw 113 rfl)) (mo hZ hw 113 rfl) (mo hZ hw 112 rfl) (by decide) (own_chB (W := 0) n0 hZ hw (ow hw 10 rfl) Ea24 Fv24 Fc24 Av24 (own_gtn H21 _) (H19.ext O0.2) hc20 (H26.ext O0.2) H27 hc28 hc29 (by decide) (by decide)) q30a q30c (g := (mkF m 76 #[rv a1, rv a2, iv p3, iv p6, iv p7] [(.int p7), (.ref a24)])) rfl (by rw [hml]; rfl) (Steps.refl _) (argsL := [(.int p7)]) (rest := []) (lenOf pd21 rfl) rfl wf (hb hby d26_76) (fun _ _ => ⟨rfl, e22, (by decide : 0 + 0 ≤ _), (by decide : 0 + 0 ≤ _)⟩))
  obtain ⟨rfl, N30q, e30⟩ := hQ30
  have N30 := Fr.app N22 N30q
  obtain ⟨cl32, Ar32, q32, S32, M32, H32, G32⟩ := id H8
  have hin32 : ¬ ((1:Int32) < 0 ∨ cl32.slots.size ≤ ((1:Int32)).toNatClampNeg) := inb_of S32 ⟨by decide, by decide⟩
  obtain ⟨T32, h32, X32, e32, W32, st32⟩ := stI X30 hx hZ e30 Ar32 (j := (1:Int32)) hin32 (g := (mkF m 93 #[rv a1, rv a2, iv p3, iv p6, iv p7] [(.int (p7 + (1:Int32))), (.int (1:Int32)), (.ref a2)])) rfl rfl (hb hby d26_93)
  have Kp_W32 : Keep h0 h32 [a2] := (Keep.refl h0 [a2]).wr W32 (mI 0 rfl)
  have N35 := Fr.snoc X32 N30 H34
  have f33 : Arv Z h32 a2 k5 .int (3:Int32) [(.int p6), (.int (p7 + (1:Int32))), (.int (1:Int32))] (.int (0:Int32)) := Arv.set Ar32 q32 S32 M32 H32 G32 rfl W32 1 rfl (Nat.le_of_ble_eq_true rfl)
  obtain ⟨_, hr, hrun, hended, hW, hsame⟩ := X32.leave (v := none) (fun _ => rfl)
  refine ⟨_, _, ?_, hrun, hended, _, _, rfl, ?_, ⟨_, rfl⟩, hW, hsame.mono (by decide) (by decide)⟩
  · show St p e below s₁ m 0 #[rv a1, rv a2, iv p3, un, un] [] _
    refine aN X0 hx hby d26_0 rfl rfl ?_
    refine iC X0 hx hby d26_1 ?_
    refine X0.iaload hx (j := (0:Int32)) (v := (.int p6)) (by rw [e0]; exact Ar4.1) (State.isArrayOf_alike hZ.alike Ar4.2.1) Ar4.2.2 hin4 (Has.at H4 hin4 rfl) (g := (mkF m 2 #[rv a1, rv a2, iv p3, un, un] [(.int (0:Int32)), (.ref a2)])) rfl rfl (hb hby d26_2) _ ?_
    refine XS.istoreN X0.here hx rfl (hb hby d26_3) rfl (l' := #[rv a1, rv a2, iv p3, iv p6, un]) rfl ?_
    refine aN X0 hx hby d26_4 rfl rfl ?_
    refine iC X0 hx hby d26_5 ?_
    refine X0.iaload hx (j := (1:Int32)) (v := (.int p7)) (by rw [e0]; exact Ar9.1) (State.isArrayOf_alike hZ.alike Ar9.2.1) Ar9.2.2 hin9 (Has.at H9 hin9 rfl) (g := (mkF m 6 #[rv a1, rv a2, iv p3, iv p6, un] [(.int (1:Int32)), (.ref a2)])) rfl rfl (hb hby d26_6) _ ?_
    refine XS.istore X0.here hx rfl (hb hby d26_7) rfl (l' := #[rv a1, rv a2, iv p3, iv p6, iv p7]) rfl ?_
    refine iN X0 hx hby d26_9 rfl ?_
    refine aN X0 hx hby d26_10 rfl rfl ?_
    refine own_rlen X0 hx hZ H12 e0 (g := (mkF m 11 #[rv a1, rv a2, iv p3, iv p6, iv p7] [(.ref a1), (.int p6)])) rfl rfl (hb hby d26_11) _ ?_
    refine XS.icmpNo X0.here hx rfl (hb hby d26_12) rfl (tlt hc13).2.1 ?_
    refine aN X0 hx hby d26_15 rfl rfl ?_
    refine iN X0 hx hby d26_16 rfl ?_
    refine st14 _ ?_
    refine XS.ifnonnullYes X0.here hx rfl (pc0 := 18) (pc' := 26) rfl (hb hby d26_18) rfl (by decide) (by decide) ?_
    refine iN X0 hx hby d26_26 rfl ?_
    refine XS.bipush X0.here hx rfl (hb hby d26_27) ?_
    refine XS.icmpYes X0.here hx rfl (pc0 := 29) (pc' := 60) rfl (hb hby d26_29) rfl (feq hc16).2 (by decide) (by decide) ?_
    refine iL X0 hx hby d26_60 rfl ?_
    refine aN X0 hx hby d26_62 rfl rfl ?_
    refine iN X0 hx hby d26_63 rfl ?_
    refine st17 _ ?_
    refine st22.trans ?_
    refine XS.icmpNo X22.here hx rfl (hb hby d26_68) rfl (tlt hc23).2.1 ?_
    show St p e below T22 m 71 #[rv a1, rv a2, iv p3, iv p6, iv p7] [] _
    refine aN X22 hx hby d26_71 rfl rfl ?_
    refine iN X22 hx hby d26_72 rfl ?_
    refine st24 _ ?_
    refine iL X22 hx hby d26_74 rfl ?_
    refine st30.trans ?_
    refine iN X30 hx hby d26_79 rfl ?_
    refine XS.icmpYes X30.here hx rfl (pc0 := 80) (pc' := 87) rfl (hb hby d26_80) rfl (teq hc31).1 (by decide) (by decide) ?_
    refine aN X30 hx hby d26_87 rfl rfl ?_
    refine iC X30 hx hby d26_88 ?_
    refine iL X30 hx hby d26_89 rfl ?_
    refine iC X30 hx hby d26_91 ?_
    refine XS.iadd X30.here hx rfl (hb hby d26_92) rfl ?_
    refine st32 _ ?_
    exact X32.returnOut hx Bd.returns (hb hby d26_94) hr
  · show r26_2Q Z a1 a2 p3 k5 p6 p7 c11 p18 k25 h0 n0 _ T32.heap _
    rw [e32]
    exact ⟨rfl, N35, Kp_W32, own_stB hc16 f33⟩
theorem own_step (l : Launch) (Z : State) (a0 : Array Value) (hw : HW a0 Z) (ws : List Jvm.Cond) (a1 a2 : Addr) (k1 : ClassId) (c1 : List (List Int32)) (p1 p2 p3 z1:Int32) (vF : Value) (h0 : Heap) (n0 : Nat) (O0 : Old Z n0 h0) (Q0 : Arv Z h0 a2 k1 .int (3:Int32) [(.int p1), (.int p2), (.int (1:Int32))] (.int (0:Int32))) (Q1 : own_Rows Z h0 a1 c1) (Q2 : Sta Z Z.heap "java/lang/String" "COMPACT_STRINGS" "Z" (.int z1)) (Q3 : ¬ (z1 = (0:Int32))) (Q4 : own_GS c1) (Q5 : n0 ≤ a2) (Q6 : xE6 Z h0 a2) (Q7 : Sta Z Z.heap "jdk/internal/util/Preconditions" "SIOOBE_FORMATTER" "Ljava/util/function/BiFunction;" vF) (Q8 : vF.isRef = true) (Q9 : own_ok c1 p1 p2 p3) :
    MF l y26 method_5_code 5 none ws ({ frames := 4, cells := 0, slots := 0, locals := 53 } : Room) Z #[(.ref a1), (.ref a2), (.int p3)] h0 (own_stepQ Z a2 k1 p1 p2 p3 h0 n0) := by
  by_cases q : p3 = (44:Int32)
  · exact r26_1 l Z a0 hw ws a1 a2 p3 k1 p1 p2 c1 z1 h0 n0 O0 Q0 Q1 Q9.2.1 Q9.1 q Q2 Q3 Q4 (Q9.2.2.1 q) Q5 Q6
  · exact r26_2 l Z a0 hw ws a1 a2 p3 k1 p1 p2 c1 z1 vF h0 n0 O0 Q0 Q1 Q9.2.1 Q9.1 q Q2 Q3 Q4 ((Q9.2.2.2 q).1) Q7 Q8 ((Q9.2.2.2 q).2.1) ((Q9.2.2.2 q).2.2.1) ((Q9.2.2.2 q).2.2.2) Q5 Q6
theorem pd2 : parseMethodDescriptor "([Ljava/lang/String;[IC)V" = some ⟨[(.array (.object "java/lang/String")), (.array .int), .char], none⟩ := by decide +kernel
theorem law_2 (l : Launch) (Z : State) (a0 : Array Value) (hw : HW a0 Z) (ws : List Jvm.Cond) (zCOMPACT_STRINGS:Int32) (vF : Value) (B : Base Z zCOMPACT_STRINGS vF) (i0:Int32) (i1 : Int64) (h0 : Heap) (n0 : Nat) (O0 : Old Z n0 h0) (pin0 : (((i0.toUInt32 >>> ((6:Int32) &&& 31).toUInt32).toInt32) % (7:Int32)) = (1:Int32)) (hc20 : own_ok (own_sp [(own_pk i0 i1 (0:Int32))]) (0:Int32) (0:Int32) (own_pk i0 i1 (0:Int32))) (hc27 : (own_nf (0:Int32) (own_pk i0 i1 (0:Int32))) = ((own_n2 (own_sp [(own_pk i0 i1 (0:Int32))])) - (1:Int32))) (hc29 : own_inb (own_sp [(own_pk i0 i1 (0:Int32))]) (own_nf (0:Int32) (own_pk i0 i1 (0:Int32)))) (hc33 : (own_tn (own_nth (own_sp [(own_pk i0 i1 (0:Int32))]) (own_nf (0:Int32) (own_pk i0 i1 (0:Int32))))) = (own_no (0:Int32) (own_pk i0 i1 (0:Int32)))) :
    MFH l x code maxLocals ret ws room_1 Z #[(.int i0), (.long i1)] h0 (lawQ n0) := by
  refine own_inH (pq pn0) #[iv i0, .val (.long i1), .second, un, un, un, un, un, un] (fun _ => by first | (simp [entryFrame, mkF, argsToLocals, Value.category, maxLocals]; done) | rfl) ?_
  intro p e s m below meth c s₁ Bd hx hby hml hown hnm hZ hh C0 e0 X0
  have N0 := Fr.nil n0
  obtain ⟨B0, B1, B2, B3⟩ := B
  obtain ⟨_, h1, _, b1_0, k1_0, X1, e1, N1, K1, _, f1_2, f1_3, st1⟩ := g1_1 i0 i1 (1:Int32) ⟨X0, hx, hZ, hw, hby, hml, hown, e0, O0, N0, by decide, by decide, by decide, by decide⟩
  have O_K1 : Old Z n0 h1 := O0.keep K1 all0
  have c_K1 := CHr.keep K1 all0 C0.1
  have C_K1 := C0.trans c_K1
  obtain ⟨T3, _, _, X3, hSq3, hg3, Cq3, hQ3, st3⟩ := flH X1 (Jvm.RoadKit.callSS X1 hx (y := y2) hown (mo hZ hw 5 rfl) (mo hZ hw 6 rfl) (mo hZ hw 3 rfl) (mo hZ hw 7 rfl) (by decide) (backOfSH (s := s) (vm0 := s.vm) (W := 0) (r2_2 l Z a0 hw [] b1_0 k1_0 (own_pk i0 i1 (0:Int32)) (own_pk i0 i1 (1:Int32)) (own_pk i0 i1 (2:Int32)) (own_pk i0 i1 (3:Int32)) (own_pk i0 i1 (4:Int32)) (own_pk i0 i1 (5:Int32)) zCOMPACT_STRINGS h1 n0 O_K1 f1_2 B0 B1 ((own_pkb _ _ _).2) (own_pkn _ _ _)) hZ (ow hw 7 rfl) (ow hw 3 rfl) (by decide) (by decide) (own_EW hw) C_K1.1) (g := (mkF m 77 #[iv i0, .val (.long i1), .second, iv (1:Int32), rv b1_0, un, un, un, un] [(.int (1:Int32)), (.ref b1_0)])) rfl (by rw [hml]; rfl) (argsL := [(.ref b1_0), (.int (1:Int32))]) (rest := []) (lenOf pd4 rfl) rfl wf (hb hby at_77) (fun _ _ => ⟨rfl, e1, (by decide : 1 + 2 ≤ _), (by decide : 6 + 5 ≤ _)⟩))
  obtain ⟨Y3, hS3, hZ3, hown3⟩ := rebS (s := s) (vm0 := s.vm) (State.WarmedH.since (State.WarmedH.refl s) 0) (by rw [e1]; exact (Nat.zero_le _)) X3 hSq3 hg3 hZ hown
  obtain ⟨b3_0, b3_1, k3_0, rfl, N3q, K3, f3_1, f3_2, f3_3, f3_4⟩ := hQ3
  have N3 := Fr.app N1 N3q
  have O_K3 : Old Z n0 T3.heap := O_K1.keep K3 all0
  have c_K3 := Cq3
  have C_K3 := C_K1.trans c_K3
  have f4 := (f1_3.keep K3)
  have f6 := (f1_2.keep K3 nin0)
  obtain ⟨T8, _, _, X8, hSq8, hg8, Cq8, hQ8, st8⟩ := flH Y3 (Jvm.RoadKit.callSS Y3 hx (y := y3) hown3 (mo hZ3 hw 16 rfl) (mo hZ3 hw 17 rfl) (mo hZ3 hw 18 rfl) (mo hZ3 hw 19 rfl) (by decide) (backOfSH (s := s) (vm0 := T3.vm) (W := 0) (own_fields l Z a0 hw [] b3_0 b3_1 k3_0 ([(own_pk i0 i1 (0:Int32))]) zCOMPACT_STRINGS vF T3.heap n0 O_K3 f3_1 f3_3 f3_2 f3_4 B0 B1 (⟨Nat.le_of_ble_eq_true rfl, (own_allS (own_pkb _ _ _) own_all0)⟩) B2 B3) hZ3 (ow hw 19 rfl) (ow hw 18 rfl) (by decide) (by decide) (own_EW hw) C_K3.1) (g := (mkF m 84 #[iv i0, .val (.long i1), .second, iv (1:Int32), rv b1_0, rv b3_0, un, un, un] [(.ref b3_0)])) rfl (by rw [hml]; rfl) (argsL := [(.ref b3_0)]) (rest := []) (lenOf pd0 rfl) rfl wf (hb hby at_84) (fun _ _ => ⟨rfl, rfl, (by decide : 3 + 15 ≤ _), (by decide : 11 + 77 ≤ _)⟩))
  obtain ⟨Y8, hS8, hZ8, hown8⟩ := rebS (s := s) (vm0 := T3.vm) hS3 (Nat.le_refl _) X8 hSq8 hg8 hZ3 hown3
  obtain ⟨b8_0, rfl, N8q, K8, _, f8_2⟩ := hQ8
  have N8 := Fr.app N3 N8q
  have O_K8 : Old Z n0 T8.heap := O_K3.keep K8 all0
  have c_K8 := Cq8
  have C_K8 := C_K3.trans c_K8
  obtain ⟨_, h9, k9, X9, e9, E9, A9, C9, st9⟩ := newPE Y8 hx hZ8 (aty := .int) (ow hw 86 rfl) rfl (g := (mkF m 97 #[iv i0, .val (.long i1), .second, iv (1:Int32), rv b1_0, rv b3_0, rv b8_0, un, un] [(.int (3:Int32))])) rfl (hb hby at_97) rfl (by decide) (cap := 3) (by decide) (by decide) (by decide) (by decide) (ad := "[I") (by decide)
  obtain ⟨b9, g9⟩ : ∃ z, z = T8.heap.size := ⟨_, rfl⟩
  rw [← g9] at A9 C9 st9
  have O_E9 : Old Z n0 h9 := O_K8.ext E9
  have c_E9 := CHr.ext E9 C_K8.1
  have C_E9 := C_K8.trans c_E9
  have V9 : Arv Z h9 b9 k9 .int (3:Int32) [(.int (0:Int32)), (.int (0:Int32)), (.int (0:Int32))] (.int (0:Int32)) := (Arv.new A9 (by decide)).pad (pad_rep [] (.int (0:Int32)) 3)
  obtain ⟨cl10, Ar10, q10, S10, M10, H10, G10⟩ := id V9
  have hin10 : ¬ ((2:Int32) < 0 ∨ cl10.slots.size ≤ ((2:Int32)).toNatClampNeg) := inb_of S10 ⟨by decide, by decide⟩
  obtain ⟨T10, h10, X10, e10, W10, st10⟩ := stI X9 hx hZ8 e9 Ar10 (j := (2:Int32)) hin10 (g := (mkF m 105 #[iv i0, .val (.long i1), .second, iv (1:Int32), rv b1_0, rv b3_0, rv b8_0, rv b9, un] [(.int (1:Int32)), (.int (2:Int32)), (.ref b9)])) rfl rfl (hb hby at_105)
  have g12 : n0 ≤ b9 := Nat.le_trans (Nat.le_trans (Nat.le_of_eq O_K8.1.symm) O_K8.2.1) (Nat.le_of_eq g9.symm)
  have O_W10 : Old Z n0 h10 := O_E9.wr W10 g12
  have c_W10 := CHr.wr W10 (Safe.ext E9 C_K8.1 (Safe.new (Nat.le_of_eq g9.symm))) C_E9.1
  have C_W10 := C_E9.trans c_W10
  have N14 := Fr.snoc X10 N8 g12
  have f11 : Arv Z h10 b9 k9 .int (3:Int32) [(.int (0:Int32)), (.int (0:Int32)), (.int (1:Int32))] (.int (0:Int32)) := Arv.set Ar10 q10 S10 M10 H10 G10 rfl W10 2 rfl (Nat.le_of_ble_eq_true rfl)
  have ne16 : b1_0 ≠ b9 := Nat.ne_of_lt (Nat.lt_of_lt_of_le (f4.keep K8).lt (Nat.le_of_eq g9.symm))
  have f17 := (((f6.keep K8 nin0).ext E9).other W10 ne16)
  obtain ⟨cl15, Ar15, _, S15, _, H15, _⟩ := id f17
  have hin15 : ¬ ((0:Int32) < 0 ∨ cl15.slots.size ≤ ((0:Int32)).toNatClampNeg) := inb_of S15 ⟨by decide, by decide⟩
  have f18 := ((f8_2.ext E9).keep1 (ow hw 10 rfl) (Keep.of_wr W10) V9)
  have f19 := (C9.wr W10)
  obtain ⟨T21, _, _, X21, hQ21, st21⟩ := cS X10 hx hZ8 hw hown8 (y := y26) 107 rfl 108 rfl 3 rfl 109 rfl (by decide) (W := 0) (own_step l Z a0 hw [] b8_0 b9 k9 (own_sp [(own_pk i0 i1 (0:Int32))]) (0:Int32) (0:Int32) (own_pk i0 i1 (0:Int32)) zCOMPACT_STRINGS vF h10 n0 O_W10 f11 f18 B0 B1 (own_gsp ⟨Nat.le_of_ble_eq_true rfl, (own_allS (own_pkb _ _ _) own_all0)⟩) g12 f19 B2 B3 hc20) (by decide) (by decide) e10 (g := (mkF m 118 #[iv i0, .val (.long i1), .second, iv (1:Int32), rv b1_0, rv b3_0, rv b8_0, rv b9, un] [(.int (own_pk i0 i1 (0:Int32))), (.ref b9), (.ref b8_0)])) rfl (by rw [hml]; rfl) (argsL := [(.ref b8_0), (.ref b9), (.int (own_pk i0 i1 (0:Int32)))]) (rest := []) (lenOf pd2 rfl) rfl wf (hb hby at_118) rfl (by decide) (by decide)
  obtain ⟨rfl, N21q, K21, f21_1⟩ := hQ21
  have N21 := Fr.app N14 N21q
  have sf22 := (c_W10.safe C9.lt (Safe.ext E9 C_K8.1 (Safe.new (Nat.le_of_eq g9.symm))))
  have O_K21 : Old Z n0 T21.heap := O_W10.keep K21 (allS g12 all0)
  have c_K21 := CHr.keep K21 (allS sf22 all0) C_W10.1
  have C_K21 := C_W10.trans c_K21
  obtain ⟨cl23, Ar23, _, S23, _, H23, _⟩ := id f21_1
  have hin23 : ¬ ((0:Int32) < 0 ∨ cl23.slots.size ≤ ((0:Int32)).toNatClampNeg) := inb_of S23 ⟨by decide, by decide⟩
  obtain ⟨cl24, Ar24, _, S24, _, H24, _⟩ := id f21_1
  have hin24 : ¬ ((2:Int32) < 0 ∨ cl24.slots.size ≤ ((2:Int32)).toNatClampNeg) := inb_of S24 ⟨by decide, by decide⟩
  have f26 := (f18.keep1 (ow hw 10 rfl) K21 f11)
  obtain ⟨_, Sx28, st28⟩ := own_rget X21 hx hZ8 f26 rfl hc29 (g := (mkF m 229 #[iv i0, .val (.long i1), .second, iv (1:Int32), rv b1_0, rv b3_0, rv b8_0, rv b9, iv (own_nf (0:Int32) (own_pk i0 i1 (0:Int32)))] [(.int (own_nf (0:Int32) (own_pk i0 i1 (0:Int32)))), (.ref b8_0)])) rfl rfl (hb hby at_229)
  obtain ⟨_, _, _, _, _, _⟩ := Sx28
  obtain ⟨a30, Sx30, st30⟩ := own_rget X21 hx hZ8 f26 rfl hc29 (g := (mkF m 237 #[iv i0, .val (.long i1), .second, iv (1:Int32), rv b1_0, rv b3_0, rv b8_0, rv b9, iv (own_nf (0:Int32) (own_pk i0 i1 (0:Int32)))] [(.int (own_nf (0:Int32) (own_pk i0 i1 (0:Int32)))), (.ref b8_0)])) rfl rfl (hb hby at_237)
  obtain ⟨_, _, Ea30, Fv30, Fc30, Av30⟩ := Sx30
  obtain ⟨_, _, q31a, _, q31c⟩ := isOf hZ8 rfl Ea30
  obtain ⟨T31, _, _, X31, hQ31, st31⟩ := fl X21 (X21.virtualBack hx (y := y8) (z := y8) hown8 (mo hZ8 hw 87 rfl) (mo hZ8 hw 42 rfl) (notFace_of_selects (args := #[]) (mo hZ8 hw 44 rfl)) (mo hZ8 hw 44 rfl) (mo hZ8 hw 43 rfl) (by decide) (own_lenB (W := 0) n0 hZ8 hw (ow hw 10 rfl) Ea30 Fv30 Fc30 Av30 (own_gtn (own_gsp ⟨Nat.le_of_ble_eq_true rfl, (own_allS (own_pkb _ _ _) own_all0)⟩) _) (B0.ext O_K21.2) B1 (by decide) (by decide)) q31a q31c (g := (mkF m 238 #[iv i0, .val (.long i1), .second, iv (1:Int32), rv b1_0, rv b3_0, rv b8_0, rv b9, iv (own_nf (0:Int32) (own_pk i0 i1 (0:Int32)))] [(.ref a30)])) rfl (by rw [hml]; rfl) (Steps.refl _) (argsL := []) (rest := []) (lenOf pd23 rfl) rfl wf (hb hby at_238) (fun _ _ => ⟨rfl, rfl, (by decide : 19 + 0 ≤ _), (by decide : 91 + 0 ≤ _)⟩))
  obtain ⟨rfl, N31q, e31⟩ := hQ31
  have N31 := Fr.app N21 N31q
  obtain ⟨cl32, Ar32, _, S32, _, H32, _⟩ := id f21_1
  have hin32 : ¬ ((1:Int32) < 0 ∨ cl32.slots.size ≤ ((1:Int32)).toNatClampNeg) := inb_of S32 ⟨by decide, by decide⟩
  refine finH (Q := lawQ n0) (rm := room_1) (vm := T8.vm) Bd X31 hZ8 (own_EW hw) C_K21 hh e31 hS8 (Nat.le_trans (Nat.le_trans (Nat.le_trans (Nat.le_refl _) E9.1) (Keep.of_wr W10).1) K21.1) (some (.int (1:Int32))) nofun ⟨rfl, N31⟩ (by decide) (by decide) fun fs hr => ?_
  show St p e below s₁ m 0 #[iv i0, .val (.long i1), .second, un, un, un, un, un, un] [] _
  refine iN X0 hx hby at_0 rfl ?_
  refine XS.bipush X0.here hx rfl (hb hby at_1) ?_
  refine XS.iushr X0.here hx rfl (hb hby at_3) rfl ?_
  refine XS.bipush X0.here hx rfl (hb hby at_4) ?_
  refine Jvm.RoadKit.iremM (g := (mkF m 6 #[iv i0, .val (.long i1), .second, un, un, un, un, un, un] [(.int (7:Int32)), (.int ((i0.toUInt32 >>> ((6:Int32) &&& 31).toUInt32).toInt32))])) X0 hx rfl (hb hby at_6) rfl (by decide : ¬ ((7:Int32) = (0:Int32))) ?_
  show St p e below s₁ m 7 #[iv i0, .val (.long i1), .second, un, un, un, un, un, un] [(.int (((i0.toUInt32 >>> ((6:Int32) &&& 31).toUInt32).toInt32) % (7:Int32)))] _
  rw [pin0]
  refine XS.istoreN X0.here hx rfl (hb hby at_7) rfl (l' := #[iv i0, .val (.long i1), .second, iv (1:Int32), un, un, un, un, un]) rfl ?_
  refine st1 _ ?_
  refine aL X1 hx hby at_74 rfl rfl ?_
  refine iN X1 hx hby at_76 rfl ?_
  refine st3.trans ?_
  refine XS.astore Y3.here hx rfl (hb hby at_80) rfl rfl (l' := #[iv i0, .val (.long i1), .second, iv (1:Int32), rv b1_0, rv b3_0, un, un, un]) rfl ?_
  refine aL Y3 hx hby at_82 rfl rfl ?_
  refine st8.trans ?_
  refine XS.astore Y8.here hx rfl (hb hby at_87) rfl rfl (l' := #[iv i0, .val (.long i1), .second, iv (1:Int32), rv b1_0, rv b3_0, rv b8_0, un, un]) rfl ?_
  refine aL Y8 hx hby at_89 rfl rfl ?_
  refine XS.ifnonnullYes Y8.here hx rfl (pc0 := 91) (pc' := 96) rfl (hb hby at_91) rfl (by decide) (by decide) ?_
  refine iC Y8 hx hby at_96 ?_
  refine st9 _ ?_
  refine XS.astore X9.here hx rfl (hb hby at_99) rfl rfl (l' := #[iv i0, .val (.long i1), .second, iv (1:Int32), rv b1_0, rv b3_0, rv b8_0, rv b9, un]) rfl ?_
  refine aL X9 hx hby at_101 rfl rfl ?_
  refine iC X9 hx hby at_103 ?_
  refine iC X9 hx hby at_104 ?_
  refine st10 _ ?_
  refine iN X10 hx hby at_106 rfl ?_
  refine XS.ifNo X10.here hx rfl (hb hby at_107) rfl ((if0 _ _).trans (tlt (by decide : (0:Int32) < (1:Int32))).2.2.2) ?_
  show St p e below T10 m 110 #[iv i0, .val (.long i1), .second, iv (1:Int32), rv b1_0, rv b3_0, rv b8_0, rv b9, un] [] _
  refine aL X10 hx hby at_110 rfl rfl ?_
  refine aL X10 hx hby at_112 rfl rfl ?_
  refine aL X10 hx hby at_114 rfl rfl ?_
  refine iC X10 hx hby at_116 ?_
  refine X10.caload hx (j := (0:Int32)) (v := (.int (own_pk i0 i1 (0:Int32)))) (by rw [e10]; exact Ar15.1) (State.isArrayOf_alike hZ8.alike Ar15.2.1) Ar15.2.2 hin15 (Has.at H15 hin15 rfl) (g := (mkF m 117 #[iv i0, .val (.long i1), .second, iv (1:Int32), rv b1_0, rv b3_0, rv b8_0, rv b9, un] [(.int (0:Int32)), (.ref b1_0), (.ref b9), (.ref b8_0)])) rfl rfl (hb hby at_117) _ ?_
  refine st21 _ ?_
  refine iN X21 hx hby at_121 rfl ?_
  refine iC X21 hx hby at_122 ?_
  refine XS.icmpYes X21.here hx rfl (pc0 := 123) (pc' := 137) rfl (hb hby at_123) rfl (flt (by decide : ¬ ((1:Int32) < (1:Int32)))).2.2.2 (by decide) (by decide) ?_
  refine iN X21 hx hby at_137 rfl ?_
  refine iC X21 hx hby at_138 ?_
  refine XS.icmpYes X21.here hx rfl (pc0 := 139) (pc' := 153) rfl (hb hby at_139) rfl (flt (by decide : ¬ ((2:Int32) < (1:Int32)))).2.2.2 (by decide) (by decide) ?_
  refine iN X21 hx hby at_153 rfl ?_
  refine iC X21 hx hby at_154 ?_
  refine XS.icmpYes X21.here hx rfl (pc0 := 155) (pc' := 169) rfl (hb hby at_155) rfl (flt (by decide : ¬ ((3:Int32) < (1:Int32)))).2.2.2 (by decide) (by decide) ?_
  refine iN X21 hx hby at_169 rfl ?_
  refine iC X21 hx hby at_170 ?_
  refine XS.icmpYes X21.here hx rfl (pc0 := 171) (pc' := 185) rfl (hb hby at_171) rfl (flt (by decide : ¬ ((4:Int32) < (1:Int32)))).2.2.2 (by decide) (by decide) ?_
  refine iN X21 hx hby at_185 rfl ?_
  refine iC X21 hx hby at_186 ?_
  refine XS.icmpYes X21.here hx rfl (pc0 := 187) (pc' := 201) rfl (hb hby at_187) rfl (flt (by decide : ¬ ((5:Int32) < (1:Int32)))).2.2.2 (by decide) (by decide) ?_
  refine aL X21 hx hby at_201 rfl rfl ?_
  refine iC X21 hx hby at_203 ?_
  refine X21.iaload hx (j := (0:Int32)) (v := (.int (own_nf (0:Int32) (own_pk i0 i1 (0:Int32))))) Ar23.1 (State.isArrayOf_alike hZ8.alike Ar23.2.1) Ar23.2.2 hin23 (Has.at H23 hin23 rfl) (g := (mkF m 204 #[iv i0, .val (.long i1), .second, iv (1:Int32), rv b1_0, rv b3_0, rv b8_0, rv b9, un] [(.int (0:Int32)), (.ref b9)])) rfl rfl (hb hby at_204) _ ?_
  refine XS.istore X21.here hx rfl (hb hby at_205) rfl (l' := #[iv i0, .val (.long i1), .second, iv (1:Int32), rv b1_0, rv b3_0, rv b8_0, rv b9, iv (own_nf (0:Int32) (own_pk i0 i1 (0:Int32)))]) rfl ?_
  show St p e below T21 m 207 #[iv i0, .val (.long i1), .second, iv (1:Int32), rv b1_0, rv b3_0, rv b8_0, rv b9, iv (own_nf (0:Int32) (own_pk i0 i1 (0:Int32)))] [] _
  refine aL X21 hx hby at_207 rfl rfl ?_
  refine iC X21 hx hby at_209 ?_
  refine X21.iaload hx (j := (2:Int32)) (v := (.int (1:Int32))) Ar24.1 (State.isArrayOf_alike hZ8.alike Ar24.2.1) Ar24.2.2 hin24 (Has.at H24 hin24 rfl) (g := (mkF m 210 #[iv i0, .val (.long i1), .second, iv (1:Int32), rv b1_0, rv b3_0, rv b8_0, rv b9, iv (own_nf (0:Int32) (own_pk i0 i1 (0:Int32)))] [(.int (2:Int32)), (.ref b9)])) rfl rfl (hb hby at_210) _ ?_
  refine iC X21 hx hby at_211 ?_
  refine XS.icmpNo X21.here hx rfl (hb hby at_212) rfl (teq (rfl : (1:Int32) = (1:Int32))).2 ?_
  refine iL X21 hx hby at_215 rfl ?_
  refine aL X21 hx hby at_217 rfl rfl ?_
  refine own_rlen X21 hx hZ8 f26 rfl (g := (mkF m 219 #[iv i0, .val (.long i1), .second, iv (1:Int32), rv b1_0, rv b3_0, rv b8_0, rv b9, iv (own_nf (0:Int32) (own_pk i0 i1 (0:Int32)))] [(.ref b8_0), (.int (own_nf (0:Int32) (own_pk i0 i1 (0:Int32))))])) rfl rfl (hb hby at_219) _ ?_
  refine iC X21 hx hby at_220 ?_
  refine XS.isub X21.here hx rfl (hb hby at_221) rfl ?_
  refine XS.icmpNo X21.here hx rfl (hb hby at_222) rfl (teq hc27).2 ?_
  refine aL X21 hx hby at_225 rfl rfl ?_
  refine iL X21 hx hby at_227 rfl ?_
  refine st28 _ ?_
  refine XS.ifnullNo X21.here hx rfl (hb hby at_230) rfl ?_
  refine aL X21 hx hby at_233 rfl rfl ?_
  refine iL X21 hx hby at_235 rfl ?_
  refine st30 _ ?_
  refine st31.trans ?_
  refine aL X31 hx hby at_241 rfl rfl ?_
  refine iC X31 hx hby at_243 ?_
  refine X31.iaload hx (j := (1:Int32)) (v := (.int (own_no (0:Int32) (own_pk i0 i1 (0:Int32))))) (by rw [e31]; exact Ar32.1) (State.isArrayOf_alike hZ8.alike Ar32.2.1) Ar32.2.2 hin32 (Has.at H32 hin32 rfl) (g := (mkF m 244 #[iv i0, .val (.long i1), .second, iv (1:Int32), rv b1_0, rv b3_0, rv b8_0, rv b9, iv (own_nf (0:Int32) (own_pk i0 i1 (0:Int32)))] [(.int (1:Int32)), (.ref b9), (.int (own_tn (own_nth (own_sp [(own_pk i0 i1 (0:Int32))]) (own_nf (0:Int32) (own_pk i0 i1 (0:Int32))))))])) rfl rfl (hb hby at_244) _ ?_
  refine XS.icmpNo X31.here hx rfl (hb hby at_245) rfl (teq hc33).2 ?_
  refine iC X31 hx hby at_248 ?_
  refine XS.goto X31.here hx rfl (pc0 := 249) (pc' := 253) rfl (hb hby at_249) (by decide) (by decide) ?_
  show St p e below T31 m 253 #[iv i0, .val (.long i1), .second, iv (1:Int32), rv b1_0, rv b3_0, rv b8_0, rv b9, iv (own_nf (0:Int32) (own_pk i0 i1 (0:Int32)))] [(.int (1:Int32))] _
  exact retN X31 hx (t := .boolean) Bd.returns (by simp) (hb hby at_253) hr
theorem d2_19 : dk method_4_code 19 (.iload_n 1) 1 := by decide +kernel
theorem d2_20 : dk method_4_code 20 (.iconst 2) 1 := by decide +kernel
theorem d2_21 : dk method_4_code 21 (.if_icmp .ne 26) 3 := by decide +kernel
theorem d2_24 : dk method_4_code 24 (.new 28) 3 := by decide +kernel
theorem d2_27 : dk method_4_code 27 .dup 1 := by decide +kernel
theorem d2_28 : dk method_4_code 28 (.iconst 2) 1 := by decide +kernel
theorem d2_29 : dk method_4_code 29 (.newarray .char) 2 := by decide +kernel
theorem d2_31 : dk method_4_code 31 .dup 1 := by decide +kernel
theorem d2_32 : dk method_4_code 32 (.iconst 0) 1 := by decide +kernel
theorem d2_33 : dk method_4_code 33 (.aload_n 0) 1 := by decide +kernel
theorem d2_34 : dk method_4_code 34 (.iconst 0) 1 := by decide +kernel
theorem d2_35 : dk method_4_code 35 .caload 1 := by decide +kernel
theorem d2_36 : dk method_4_code 36 .castore 1 := by decide +kernel
theorem d2_37 : dk method_4_code 37 .dup 1 := by decide +kernel
theorem d2_38 : dk method_4_code 38 (.iconst 1) 1 := by decide +kernel
theorem d2_39 : dk method_4_code 39 (.aload_n 0) 1 := by decide +kernel
theorem d2_40 : dk method_4_code 40 (.iconst 1) 1 := by decide +kernel
theorem d2_41 : dk method_4_code 41 .caload 1 := by decide +kernel
theorem d2_42 : dk method_4_code 42 .castore 1 := by decide +kernel
theorem d2_43 : dk method_4_code 43 (.invokespecial 39) 3 := by decide +kernel
theorem pd17 : parseMethodDescriptor "([C)V" = some ⟨[(.array .char)], none⟩ := by decide +kernel
abbrev y28 : MethodName := ⟨"java/lang/String", "<init>", "([C)V"⟩
theorem d2_46 : dk method_4_code 46 .areturn 1 := by decide +kernel
def r2_3Q (Z : State) (a1 : Addr) (k2 : ClassId) (p3 p4 p5 p6 p7 p8 p34:Int32) (h0 : Heap) (n0 : Nat) : QT := fun v h L => own_strQ Z [p3, p4] h0 n0 v h L
theorem r2_3 (l : Launch) (Z : State) (a0 : Array Value) (hw : HW a0 Z) (ws : List Jvm.Cond) (a1 : Addr) (k2 : ClassId) (p3 p4 p5 p6 p7 p8 p34:Int32) (h0 : Heap) (n0 : Nat) (O0 : Old Z n0 h0) (H9 : Arv Z h0 a1 k2 .char (6:Int32) [(.int p3), (.int p4), (.int p5), (.int p6), (.int p7), (.int p8)] (.int (0:Int32))) (H20 : xE0 Z h0 a1) (H35 : Sta Z Z.heap "java/lang/String" "COMPACT_STRINGS" "Z" (.int p34)) (hc36 : ¬ (p34 = (0:Int32))) (hc37 : ¬ ((nar .char p4) < (0:Int32)) ∧ ¬ ((255:Int32) < (nar .char p4))) (hc38 : ¬ ((nar .char p3) < (0:Int32)) ∧ ¬ ((255:Int32) < (nar .char p3))) (H43 : nar .char p3 = p3) (H44 : nar .char p4 = p4) :
    MFH l y2 method_4_code 2 (some (.object "java/lang/String")) ws (rM 4 3 8 66) Z #[(.ref a1), (.int (2:Int32))] h0 (r2_3Q Z a1 k2 p3 p4 p5 p6 p7 p8 p34 h0 n0) := by
  refine own_inH (pq pn0) #[rv a1, iv (2:Int32)] (fun _ => by first | (simp [entryFrame, mkF, argsToLocals, Value.category]; done) | rfl) ?_
  intro p e s m below meth c s₁ Bd hx hby hml hown hnm hZ hh C0 e0 X0
  have N0 := Fr.nil n0
  obtain ⟨_, h10, X10, e10, E10, A10, D10, -, st10⟩ := newO X0 hx hZ hown (ow hw 130 rfl) (ow hw 10 rfl) (ow hw 9 rfl) e0 (g := (mkF m 24 #[rv a1, iv (2:Int32)] [])) rfl (hb hby d2_24) (by decide) (by decide)
  obtain ⟨b10, g10⟩ : ∃ z, z = h0.size := ⟨_, rfl⟩
  rw [← g10] at A10 D10 st10
  have O_E10 : Old Z n0 h10 := O0.ext E10
  have Kp_E10 : Keep h0 h10 [] := (Keep.refl h0 []).ext E10
  have c_E10 := CHr.ext E10 C0.1
  have C_E10 := C0.trans c_E10
  obtain ⟨_, h11, k11, X11, e11, E11, A11, C11, st11⟩ := newPE X10 hx hZ (aty := .char) (ow hw 0 rfl) e10 (g := (mkF m 29 #[rv a1, iv (2:Int32)] [(.int (2:Int32)), (.ref b10), (.ref b10)])) rfl (hb hby d2_29) rfl (by decide) (cap := 2) (by decide) (by decide) (by decide) (by decide) (ad := "[C") (by decide)
  obtain ⟨b11, g11⟩ : ∃ z, z = h10.size := ⟨_, rfl⟩
  rw [← g11] at A11 C11 st11
  have O_E11 : Old Z n0 h11 := O_E10.ext E11
  have Kp_E11 : Keep h0 h11 [] := Kp_E10.ext E11
  have c_E11 := CHr.ext E11 C_E10.1
  have C_E11 := C_E10.trans c_E11
  have V11 : Arv Z h11 b11 k11 .char (2:Int32) [(.int (0:Int32)), (.int (0:Int32))] (.int (0:Int32)) := (Arv.new A11 (by decide)).pad (pad_rep [] (.int (0:Int32)) 2)
  have f13 := ((H9.ext E10).ext E11)
  obtain ⟨cl12, Ar12, _, S12, _, H12, _⟩ := id f13
  have hin12 : ¬ ((0:Int32) < 0 ∨ cl12.slots.size ≤ ((0:Int32)).toNatClampNeg) := inb_of S12 ⟨by decide, by decide⟩
  obtain ⟨cl14, Ar14, q14, S14, M14, H14, G14⟩ := id V11
  have hin14 : ¬ ((0:Int32) < 0 ∨ cl14.slots.size ≤ ((0:Int32)).toNatClampNeg) := inb_of S14 ⟨by decide, by decide⟩
  obtain ⟨_, h14, X14, e14, W14, st14⟩ := stC X11 hx hZ e11 Ar14 (j := (0:Int32)) hin14 (g := (mkF m 36 #[rv a1, iv (2:Int32)] [(.int p3), (.int (0:Int32)), (.ref b11), (.ref b11), (.ref b10), (.ref b10)])) rfl rfl (hb hby d2_36)
  have g16 : n0 ≤ b11 := Nat.le_trans (Nat.le_trans (Nat.le_of_eq O_E10.1.symm) O_E10.2.1) (Nat.le_of_eq g11.symm)
  have z17 : h0.size ≤ b11 := Nat.le_trans Kp_E10.1 (Nat.le_of_eq g11.symm)
  have O_W14 : Old Z n0 h14 := O_E11.wr W14 g16
  have Kp_W14 : Keep h0 h14 [] := Kp_E11.wr W14 (Or.inr z17)
  have c_W14 := CHr.wr W14 (Safe.ext E11 C_E10.1 (Safe.new (Nat.le_of_eq g11.symm))) C_E11.1
  have C_W14 := C_E11.trans c_W14
  have N18 := Fr.snoc X14 N0 g16
  have f15 : Arv Z h14 b11 k11 .char (2:Int32) [(.int (nar .char p3)), (.int (0:Int32))] (.int (0:Int32)) := Arv.set Ar14 q14 S14 M14 H14 G14 (fits_nar_char _) W14 0 rfl (Nat.le_of_ble_eq_true rfl)
  have ne22 : a1 ≠ b11 := Nat.ne_of_lt (Nat.lt_of_lt_of_le (H20.ext E10).lt (Nat.le_of_eq g11.symm))
  have f23 := (f13.other W14 ne22)
  obtain ⟨cl19, Ar19, _, S19, _, H19, _⟩ := id f23
  have hin19 : ¬ ((1:Int32) < 0 ∨ cl19.slots.size ≤ ((1:Int32)).toNatClampNeg) := inb_of S19 ⟨by decide, by decide⟩
  obtain ⟨cl24, Ar24, q24, S24, M24, H24, G24⟩ := id f15
  have hin24 : ¬ ((1:Int32) < 0 ∨ cl24.slots.size ≤ ((1:Int32)).toNatClampNeg) := inb_of S24 ⟨by decide, by decide⟩
  obtain ⟨_, h24, X24, e24, W24, st24⟩ := stC X14 hx hZ e14 Ar24 (j := (1:Int32)) hin24 (g := (mkF m 42 #[rv a1, iv (2:Int32)] [(.int p4), (.int (1:Int32)), (.ref b11), (.ref b11), (.ref b10), (.ref b10)])) rfl rfl (hb hby d2_42)
  have sf26 := (c_W14.safe C11.lt (Safe.ext E11 C_E10.1 (Safe.new (Nat.le_of_eq g11.symm))))
  have O_W24 : Old Z n0 h24 := O_W14.wr W24 g16
  have Kp_W24 : Keep h0 h24 [] := Kp_W14.wr W24 (Or.inr z17)
  have c_W24 := CHr.wr W24 sf26 C_W14.1
  have C_W24 := C_W14.trans c_W24
  have N27 := Fr.snoc X24 N18 g16
  have f25 : Arv Z h24 b11 k11 .char (2:Int32) [(.int (nar .char p3)), (.int (nar .char p4))] (.int (0:Int32)) := Arv.set Ar24 q24 S24 M24 H24 G24 (fits_nar_char _) W24 1 rfl (Nat.le_of_ble_eq_true rfl)
  have f28 := (((A10.ext E11).wr W14).wr W24)
  have f29 : xF3 Z h10 b10 .null := D10 (Or.inr (ow hw 12 rfl)) (ty := (.array .byte)) (by decide)
  have ne30 : b10 ≠ b11 := Nat.ne_of_lt (Nat.lt_of_lt_of_le A10.lt (Nat.le_of_eq g11.symm))
  have f31 := (((f29.ext E11).other W14 (Or.inl ne30)).other W24 (Or.inl ne30))
  have f32 : xF2 Z h10 b10 (.int (0:Int32)) := D10 (Or.inr (ow hw 13 rfl)) (ty := .byte) (by decide)
  have f33 := (((f32.ext E11).other W14 (Or.inl ne30)).other W24 (Or.inl ne30))
  have g39 : n0 ≤ b10 := Nat.le_trans (Nat.le_trans (Nat.le_of_eq O0.1.symm) O0.2.1) (Nat.le_of_eq g10.symm)
  obtain ⟨T40, _, _, X40, hQ40, st40⟩ := fl X24 (X24.specialBack hx (y := y28) rfl hown (mo hZ hw 131 rfl) (mo hZ hw 132 rfl) (mo hZ hw 133 rfl) (by decide) (own_newB (W := 1) (cs := [(nar .char p3), (nar .char p4)]) (nn := 2) rfl (Nat.le_trans (Nat.le_of_eq O_W24.1.symm) O_W24.2.1) g39 hZ hw (ow hw 10 rfl) f28 f31 f33 f25 (H35.ext O_W24.2) hc36 rfl (Nat.le_of_ble_eq_true rfl) (Nat.le_of_ble_eq_true rfl) (own_allS hc38 (own_allS hc37 own_all0)) (by decide) (by decide)) (g := (mkF m 43 #[rv a1, iv (2:Int32)] [(.ref b11), (.ref b10), (.ref b10)])) rfl (by rw [hml]; rfl) (Steps.refl _) (a := b10) (argsL := [(.ref b11)]) (rest := [(.ref b10)]) (lenOf pd17 rfl) rfl wf (hb hby d2_43) (fun _ _ => ⟨rfl, e24, (by decide : 2 + 1 ≤ _), (by decide : 6 + 2 ≤ _)⟩))
  obtain ⟨b40_0, k40_0, rfl, N40q, K40, _, f40_2, f40_3, f40_4, f40_5⟩ := hQ40
  have N40 := Fr.app N27 N40q
  have sf41 := (c_W24.safe ((A10.ext E11).wr W14).lt (c_W14.safe (A10.ext E11).lt (c_E11.safe A10.lt (Safe.ext E10 C0.1 (Safe.new (Nat.le_of_eq g10.symm))))))
  have z42 : h0.size ≤ b10 := Nat.le_trans (Keep.refl h0 []).1 (Nat.le_of_eq g10.symm)
  have Kp_K40 : Keep h0 T40.heap [] := Kp_W24.trans K40 (allS (Or.inr z42) all0)
  have c_K40 := CHr.keep K40 (allS sf41 all0) C_W24.1
  have C_K40 := C_W24.trans c_K40
  refine finH (Q := r2_3Q Z a1 k2 p3 p4 p5 p6 p7 p8 p34 h0 n0) (rm := (rM 4 3 8 66)) (vm := s.vm) Bd X40 hZ (own_EW hw) C_K40 hh rfl (State.WarmedH.since (State.WarmedH.refl s) 0) (Nat.zero_le _) (some (.ref b10)) nofun ⟨b10, b40_0, k40_0, rfl, N40, Kp_K40, f40_2, f40_3, f40_4, (own_cast rfl (by rw [H43, H44]) f40_5)⟩ (by decide) (by decide) fun fs hr => ?_
  show St p e below s₁ m 0 #[rv a1, iv (2:Int32)] [] _
  refine iN X0 hx hby d2_0 rfl ?_
  refine XS.ifYes X0.here hx rfl (pc0 := 1) (pc' := 7) rfl (hb hby d2_1) rfl ((if0 _ _).trans (feq (by decide : ¬ ((2:Int32) = (0:Int32)))).2) (by decide) (by decide) ?_
  refine iN X0 hx hby d2_7 rfl ?_
  refine iC X0 hx hby d2_8 ?_
  refine XS.icmpYes X0.here hx rfl (pc0 := 9) (pc' := 19) rfl (hb hby d2_9) rfl (feq (by decide : ¬ ((2:Int32) = (1:Int32)))).2 (by decide) (by decide) ?_
  refine iN X0 hx hby d2_19 rfl ?_
  refine iC X0 hx hby d2_20 ?_
  refine XS.icmpNo X0.here hx rfl (hb hby d2_21) rfl (teq (rfl : (2:Int32) = (2:Int32))).2 ?_
  refine st10 _ ?_
  refine XS.dup X10.here hx rfl (hb hby d2_27) rfl rfl ?_
  refine iC X10 hx hby d2_28 ?_
  refine st11 _ ?_
  refine XS.dup X11.here hx rfl (hb hby d2_31) rfl rfl ?_
  refine iC X11 hx hby d2_32 ?_
  refine aN X11 hx hby d2_33 rfl rfl ?_
  refine iC X11 hx hby d2_34 ?_
  refine X11.caload hx (j := (0:Int32)) (v := (.int p3)) (by rw [e11]; exact Ar12.1) (State.isArrayOf_alike hZ.alike Ar12.2.1) Ar12.2.2 hin12 (Has.at H12 hin12 rfl) (g := (mkF m 35 #[rv a1, iv (2:Int32)] [(.int (0:Int32)), (.ref a1), (.int (0:Int32)), (.ref b11), (.ref b11), (.ref b10), (.ref b10)])) rfl rfl (hb hby d2_35) _ ?_
  refine st14 _ ?_
  refine XS.dup X14.here hx rfl (hb hby d2_37) rfl rfl ?_
  refine iC X14 hx hby d2_38 ?_
  refine aN X14 hx hby d2_39 rfl rfl ?_
  refine iC X14 hx hby d2_40 ?_
  refine X14.caload hx (j := (1:Int32)) (v := (.int p4)) (by rw [e14]; exact Ar19.1) (State.isArrayOf_alike hZ.alike Ar19.2.1) Ar19.2.2 hin19 (Has.at H19 hin19 rfl) (g := (mkF m 41 #[rv a1, iv (2:Int32)] [(.int (1:Int32)), (.ref a1), (.int (1:Int32)), (.ref b11), (.ref b11), (.ref b10), (.ref b10)])) rfl rfl (hb hby d2_41) _ ?_
  refine st24 _ ?_
  refine st40.trans ?_
  show St p e below T40 m 46 #[rv a1, iv (2:Int32)] [(.ref b10)] _
  exact retA X40 hx Bd.returns rfl rfl (hb hby d2_46) hr
theorem law_3 (l : Launch) (Z : State) (a0 : Array Value) (hw : HW a0 Z) (ws : List Jvm.Cond) (zCOMPACT_STRINGS:Int32) (vF : Value) (B : Base Z zCOMPACT_STRINGS vF) (i0:Int32) (i1 : Int64) (h0 : Heap) (n0 : Nat) (O0 : Old Z n0 h0) (pin0 : (((i0.toUInt32 >>> ((6:Int32) &&& 31).toUInt32).toInt32) % (7:Int32)) = (2:Int32)) (hc20 : own_ok (own_sp [(own_pk i0 i1 (0:Int32)), (own_pk i0 i1 (1:Int32))]) (0:Int32) (0:Int32) (own_pk i0 i1 (0:Int32))) (hc27 : own_ok (own_sp [(own_pk i0 i1 (0:Int32)), (own_pk i0 i1 (1:Int32))]) (own_nf (0:Int32) (own_pk i0 i1 (0:Int32))) (own_no (0:Int32) (own_pk i0 i1 (0:Int32))) (own_pk i0 i1 (1:Int32))) (hc34 : (own_nf (own_nf (0:Int32) (own_pk i0 i1 (0:Int32))) (own_pk i0 i1 (1:Int32))) = ((own_n2 (own_sp [(own_pk i0 i1 (0:Int32)), (own_pk i0 i1 (1:Int32))])) - (1:Int32))) (hc36 : own_inb (own_sp [(own_pk i0 i1 (0:Int32)), (own_pk i0 i1 (1:Int32))]) (own_nf (own_nf (0:Int32) (own_pk i0 i1 (0:Int32))) (own_pk i0 i1 (1:Int32)))) (hc40 : (own_tn (own_nth (own_sp [(own_pk i0 i1 (0:Int32)), (own_pk i0 i1 (1:Int32))]) (own_nf (own_nf (0:Int32) (own_pk i0 i1 (0:Int32))) (own_pk i0 i1 (1:Int32))))) = (own_no (own_no (0:Int32) (own_pk i0 i1 (0:Int32))) (own_pk i0 i1 (1:Int32)))) :
    MFH l x code maxLocals ret ws room_1 Z #[(.int i0), (.long i1)] h0 (lawQ n0) := by
  refine own_inH (pq pn0) #[iv i0, .val (.long i1), .second, un, un, un, un, un, un] (fun _ => by first | (simp [entryFrame, mkF, argsToLocals, Value.category, maxLocals]; done) | rfl) ?_
  intro p e s m below meth c s₁ Bd hx hby hml hown hnm hZ hh C0 e0 X0
  have N0 := Fr.nil n0
  obtain ⟨B0, B1, B2, B3⟩ := B
  obtain ⟨_, h1, _, b1_0, k1_0, X1, e1, N1, K1, _, f1_2, f1_3, st1⟩ := g1_1 i0 i1 (2:Int32) ⟨X0, hx, hZ, hw, hby, hml, hown, e0, O0, N0, by decide, by decide, by decide, by decide⟩
  have O_K1 : Old Z n0 h1 := O0.keep K1 all0
  have c_K1 := CHr.keep K1 all0 C0.1
  have C_K1 := C0.trans c_K1
  obtain ⟨T3, _, _, X3, hSq3, hg3, Cq3, hQ3, st3⟩ := flH X1 (Jvm.RoadKit.callSS X1 hx (y := y2) hown (mo hZ hw 5 rfl) (mo hZ hw 6 rfl) (mo hZ hw 3 rfl) (mo hZ hw 7 rfl) (by decide) (backOfSH (s := s) (vm0 := s.vm) (W := 0) (r2_3 l Z a0 hw [] b1_0 k1_0 (own_pk i0 i1 (0:Int32)) (own_pk i0 i1 (1:Int32)) (own_pk i0 i1 (2:Int32)) (own_pk i0 i1 (3:Int32)) (own_pk i0 i1 (4:Int32)) (own_pk i0 i1 (5:Int32)) zCOMPACT_STRINGS h1 n0 O_K1 f1_2 f1_3 B0 B1 (⟨own_pkb0 _ _ _, own_pkbb _ _ _⟩) (⟨own_pkb0 _ _ _, own_pkbb _ _ _⟩) (own_pkn _ _ _) (own_pkn _ _ _)) hZ (ow hw 7 rfl) (ow hw 3 rfl) (by decide) (by decide) (own_EW hw) C_K1.1) (g := (mkF m 77 #[iv i0, .val (.long i1), .second, iv (2:Int32), rv b1_0, un, un, un, un] [(.int (2:Int32)), (.ref b1_0)])) rfl (by rw [hml]; rfl) (argsL := [(.ref b1_0), (.int (2:Int32))]) (rest := []) (lenOf pd4 rfl) rfl wf (hb hby at_77) (fun _ _ => ⟨rfl, e1, (by decide : 1 + 3 ≤ _), (by decide : 6 + 8 ≤ _)⟩))
  obtain ⟨Y3, hS3, hZ3, hown3⟩ := rebS (s := s) (vm0 := s.vm) (State.WarmedH.since (State.WarmedH.refl s) 0) (by rw [e1]; exact (Nat.zero_le _)) X3 hSq3 hg3 hZ hown
  obtain ⟨b3_0, b3_1, k3_0, rfl, N3q, K3, f3_1, f3_2, f3_3, f3_4⟩ := hQ3
  have N3 := Fr.app N1 N3q
  have O_K3 : Old Z n0 T3.heap := O_K1.keep K3 all0
  have c_K3 := Cq3
  have C_K3 := C_K1.trans c_K3
  have f4 := (f1_3.keep K3)
  have f6 := (f1_2.keep K3 nin0)
  obtain ⟨T8, _, _, X8, hSq8, hg8, Cq8, hQ8, st8⟩ := flH Y3 (Jvm.RoadKit.callSS Y3 hx (y := y3) hown3 (mo hZ3 hw 16 rfl) (mo hZ3 hw 17 rfl) (mo hZ3 hw 18 rfl) (mo hZ3 hw 19 rfl) (by decide) (backOfSH (s := s) (vm0 := T3.vm) (W := 0) (own_fields l Z a0 hw [] b3_0 b3_1 k3_0 ([(own_pk i0 i1 (0:Int32)), (own_pk i0 i1 (1:Int32))]) zCOMPACT_STRINGS vF T3.heap n0 O_K3 f3_1 f3_3 f3_2 f3_4 B0 B1 (⟨Nat.le_of_ble_eq_true rfl, (own_allS (own_pkb _ _ _) (own_allS (own_pkb _ _ _) own_all0))⟩) B2 B3) hZ3 (ow hw 19 rfl) (ow hw 18 rfl) (by decide) (by decide) (own_EW hw) C_K3.1) (g := (mkF m 84 #[iv i0, .val (.long i1), .second, iv (2:Int32), rv b1_0, rv b3_0, un, un, un] [(.ref b3_0)])) rfl (by rw [hml]; rfl) (argsL := [(.ref b3_0)]) (rest := []) (lenOf pd0 rfl) rfl wf (hb hby at_84) (fun _ _ => ⟨rfl, rfl, (by decide : 4 + 15 ≤ _), (by decide : 14 + 77 ≤ _)⟩))
  obtain ⟨Y8, hS8, hZ8, hown8⟩ := rebS (s := s) (vm0 := T3.vm) hS3 (Nat.le_refl _) X8 hSq8 hg8 hZ3 hown3
  obtain ⟨b8_0, rfl, N8q, K8, _, f8_2⟩ := hQ8
  have N8 := Fr.app N3 N8q
  have O_K8 : Old Z n0 T8.heap := O_K3.keep K8 all0
  have c_K8 := Cq8
  have C_K8 := C_K3.trans c_K8
  obtain ⟨_, h9, k9, X9, e9, E9, A9, C9, st9⟩ := newPE Y8 hx hZ8 (aty := .int) (ow hw 86 rfl) rfl (g := (mkF m 97 #[iv i0, .val (.long i1), .second, iv (2:Int32), rv b1_0, rv b3_0, rv b8_0, un, un] [(.int (3:Int32))])) rfl (hb hby at_97) rfl (by decide) (cap := 3) (by decide) (by decide) (by decide) (by decide) (ad := "[I") (by decide)
  obtain ⟨b9, g9⟩ : ∃ z, z = T8.heap.size := ⟨_, rfl⟩
  rw [← g9] at A9 C9 st9
  have O_E9 : Old Z n0 h9 := O_K8.ext E9
  have c_E9 := CHr.ext E9 C_K8.1
  have C_E9 := C_K8.trans c_E9
  have V9 : Arv Z h9 b9 k9 .int (3:Int32) [(.int (0:Int32)), (.int (0:Int32)), (.int (0:Int32))] (.int (0:Int32)) := (Arv.new A9 (by decide)).pad (pad_rep [] (.int (0:Int32)) 3)
  obtain ⟨cl10, Ar10, q10, S10, M10, H10, G10⟩ := id V9
  have hin10 : ¬ ((2:Int32) < 0 ∨ cl10.slots.size ≤ ((2:Int32)).toNatClampNeg) := inb_of S10 ⟨by decide, by decide⟩
  obtain ⟨T10, h10, X10, e10, W10, st10⟩ := stI X9 hx hZ8 e9 Ar10 (j := (2:Int32)) hin10 (g := (mkF m 105 #[iv i0, .val (.long i1), .second, iv (2:Int32), rv b1_0, rv b3_0, rv b8_0, rv b9, un] [(.int (1:Int32)), (.int (2:Int32)), (.ref b9)])) rfl rfl (hb hby at_105)
  have g12 : n0 ≤ b9 := Nat.le_trans (Nat.le_trans (Nat.le_of_eq O_K8.1.symm) O_K8.2.1) (Nat.le_of_eq g9.symm)
  have O_W10 : Old Z n0 h10 := O_E9.wr W10 g12
  have c_W10 := CHr.wr W10 (Safe.ext E9 C_K8.1 (Safe.new (Nat.le_of_eq g9.symm))) C_E9.1
  have C_W10 := C_E9.trans c_W10
  have N14 := Fr.snoc X10 N8 g12
  have f11 : Arv Z h10 b9 k9 .int (3:Int32) [(.int (0:Int32)), (.int (0:Int32)), (.int (1:Int32))] (.int (0:Int32)) := Arv.set Ar10 q10 S10 M10 H10 G10 rfl W10 2 rfl (Nat.le_of_ble_eq_true rfl)
  have ne16 : b1_0 ≠ b9 := Nat.ne_of_lt (Nat.lt_of_lt_of_le (f4.keep K8).lt (Nat.le_of_eq g9.symm))
  have f17 := (((f6.keep K8 nin0).ext E9).other W10 ne16)
  obtain ⟨cl15, Ar15, _, S15, _, H15, _⟩ := id f17
  have hin15 : ¬ ((0:Int32) < 0 ∨ cl15.slots.size ≤ ((0:Int32)).toNatClampNeg) := inb_of S15 ⟨by decide, by decide⟩
  have f18 := ((f8_2.ext E9).keep1 (ow hw 10 rfl) (Keep.of_wr W10) V9)
  have f19 := (C9.wr W10)
  obtain ⟨T21, _, _, X21, hQ21, st21⟩ := cS X10 hx hZ8 hw hown8 (y := y26) 107 rfl 108 rfl 3 rfl 109 rfl (by decide) (W := 0) (own_step l Z a0 hw [] b8_0 b9 k9 (own_sp [(own_pk i0 i1 (0:Int32)), (own_pk i0 i1 (1:Int32))]) (0:Int32) (0:Int32) (own_pk i0 i1 (0:Int32)) zCOMPACT_STRINGS vF h10 n0 O_W10 f11 f18 B0 B1 (own_gsp ⟨Nat.le_of_ble_eq_true rfl, (own_allS (own_pkb _ _ _) (own_allS (own_pkb _ _ _) own_all0))⟩) g12 f19 B2 B3 hc20) (by decide) (by decide) e10 (g := (mkF m 118 #[iv i0, .val (.long i1), .second, iv (2:Int32), rv b1_0, rv b3_0, rv b8_0, rv b9, un] [(.int (own_pk i0 i1 (0:Int32))), (.ref b9), (.ref b8_0)])) rfl (by rw [hml]; rfl) (argsL := [(.ref b8_0), (.ref b9), (.int (own_pk i0 i1 (0:Int32)))]) (rest := []) (lenOf pd2 rfl) rfl wf (hb hby at_118) rfl (by decide) (by decide)
  obtain ⟨rfl, N21q, K21, f21_1⟩ := hQ21
  have N21 := Fr.app N14 N21q
  have sf22 := (c_W10.safe C9.lt (Safe.ext E9 C_K8.1 (Safe.new (Nat.le_of_eq g9.symm))))
  have O_K21 : Old Z n0 T21.heap := O_W10.keep K21 (allS g12 all0)
  have c_K21 := CHr.keep K21 (allS sf22 all0) C_W10.1
  have C_K21 := C_W10.trans c_K21
  have f24 := (f17.keep K21 (ninS ne16 nin0))
  obtain ⟨cl23, Ar23, _, S23, _, H23, _⟩ := id f24
  have hin23 : ¬ ((1:Int32) < 0 ∨ cl23.slots.size ≤ ((1:Int32)).toNatClampNeg) := inb_of S23 ⟨by decide, by decide⟩
  have f25 := (f18.keep1 (ow hw 10 rfl) K21 f11)
  have f26 := (f19.keep K21)
  obtain ⟨T28, _, _, X28, hQ28, st28⟩ := cS X21 hx hZ8 hw hown8 (y := y26) 107 rfl 108 rfl 3 rfl 109 rfl (by decide) (W := 0) (own_step l Z a0 hw [] b8_0 b9 k9 (own_sp [(own_pk i0 i1 (0:Int32)), (own_pk i0 i1 (1:Int32))]) (own_nf (0:Int32) (own_pk i0 i1 (0:Int32))) (own_no (0:Int32) (own_pk i0 i1 (0:Int32))) (own_pk i0 i1 (1:Int32)) zCOMPACT_STRINGS vF T21.heap n0 O_K21 f21_1 f25 B0 B1 (own_gsp ⟨Nat.le_of_ble_eq_true rfl, (own_allS (own_pkb _ _ _) (own_allS (own_pkb _ _ _) own_all0))⟩) g12 f26 B2 B3 hc27) (by decide) (by decide) rfl (g := (mkF m 134 #[iv i0, .val (.long i1), .second, iv (2:Int32), rv b1_0, rv b3_0, rv b8_0, rv b9, un] [(.int (own_pk i0 i1 (1:Int32))), (.ref b9), (.ref b8_0)])) rfl (by rw [hml]; rfl) (argsL := [(.ref b8_0), (.ref b9), (.int (own_pk i0 i1 (1:Int32)))]) (rest := []) (lenOf pd2 rfl) rfl wf (hb hby at_134) rfl (by decide) (by decide)
  obtain ⟨rfl, N28q, K28, f28_1⟩ := hQ28
  have N28 := Fr.app N21 N28q
  have sf29 := (c_K21.safe (C9.wr W10).lt sf22)
  have O_K28 : Old Z n0 T28.heap := O_K21.keep K28 (allS g12 all0)
  have c_K28 := CHr.keep K28 (allS sf29 all0) C_K21.1
  have C_K28 := C_K21.trans c_K28
  obtain ⟨cl30, Ar30, _, S30, _, H30, _⟩ := id f28_1
  have hin30 : ¬ ((0:Int32) < 0 ∨ cl30.slots.size ≤ ((0:Int32)).toNatClampNeg) := inb_of S30 ⟨by decide, by decide⟩
  obtain ⟨cl31, Ar31, _, S31, _, H31, _⟩ := id f28_1
  have hin31 : ¬ ((2:Int32) < 0 ∨ cl31.slots.size ≤ ((2:Int32)).toNatClampNeg) := inb_of S31 ⟨by decide, by decide⟩
  have f33 := (f25.keep1 (ow hw 10 rfl) K28 f21_1)
  obtain ⟨_, Sx35, st35⟩ := own_rget X28 hx hZ8 f33 rfl hc36 (g := (mkF m 229 #[iv i0, .val (.long i1), .second, iv (2:Int32), rv b1_0, rv b3_0, rv b8_0, rv b9, iv (own_nf (own_nf (0:Int32) (own_pk i0 i1 (0:Int32))) (own_pk i0 i1 (1:Int32)))] [(.int (own_nf (own_nf (0:Int32) (own_pk i0 i1 (0:Int32))) (own_pk i0 i1 (1:Int32)))), (.ref b8_0)])) rfl rfl (hb hby at_229)
  obtain ⟨_, _, _, _, _, _⟩ := Sx35
  obtain ⟨a37, Sx37, st37⟩ := own_rget X28 hx hZ8 f33 rfl hc36 (g := (mkF m 237 #[iv i0, .val (.long i1), .second, iv (2:Int32), rv b1_0, rv b3_0, rv b8_0, rv b9, iv (own_nf (own_nf (0:Int32) (own_pk i0 i1 (0:Int32))) (own_pk i0 i1 (1:Int32)))] [(.int (own_nf (own_nf (0:Int32) (own_pk i0 i1 (0:Int32))) (own_pk i0 i1 (1:Int32)))), (.ref b8_0)])) rfl rfl (hb hby at_237)
  obtain ⟨_, _, Ea37, Fv37, Fc37, Av37⟩ := Sx37
  obtain ⟨_, _, q38a, _, q38c⟩ := isOf hZ8 rfl Ea37
  obtain ⟨T38, _, _, X38, hQ38, st38⟩ := fl X28 (X28.virtualBack hx (y := y8) (z := y8) hown8 (mo hZ8 hw 87 rfl) (mo hZ8 hw 42 rfl) (notFace_of_selects (args := #[]) (mo hZ8 hw 44 rfl)) (mo hZ8 hw 44 rfl) (mo hZ8 hw 43 rfl) (by decide) (own_lenB (W := 0) n0 hZ8 hw (ow hw 10 rfl) Ea37 Fv37 Fc37 Av37 (own_gtn (own_gsp ⟨Nat.le_of_ble_eq_true rfl, (own_allS (own_pkb _ _ _) (own_allS (own_pkb _ _ _) own_all0))⟩) _) (B0.ext O_K28.2) B1 (by decide) (by decide)) q38a q38c (g := (mkF m 238 #[iv i0, .val (.long i1), .second, iv (2:Int32), rv b1_0, rv b3_0, rv b8_0, rv b9, iv (own_nf (own_nf (0:Int32) (own_pk i0 i1 (0:Int32))) (own_pk i0 i1 (1:Int32)))] [(.ref a37)])) rfl (by rw [hml]; rfl) (Steps.refl _) (argsL := []) (rest := []) (lenOf pd23 rfl) rfl wf (hb hby at_238) (fun _ _ => ⟨rfl, rfl, (by decide : 20 + 0 ≤ _), (by decide : 94 + 0 ≤ _)⟩))
  obtain ⟨rfl, N38q, e38⟩ := hQ38
  have N38 := Fr.app N28 N38q
  obtain ⟨cl39, Ar39, _, S39, _, H39, _⟩ := id f28_1
  have hin39 : ¬ ((1:Int32) < 0 ∨ cl39.slots.size ≤ ((1:Int32)).toNatClampNeg) := inb_of S39 ⟨by decide, by decide⟩
  refine finH (Q := lawQ n0) (rm := room_1) (vm := T8.vm) Bd X38 hZ8 (own_EW hw) C_K28 hh e38 hS8 (Nat.le_trans (Nat.le_trans (Nat.le_trans (Nat.le_trans (Nat.le_refl _) E9.1) (Keep.of_wr W10).1) K21.1) K28.1) (some (.int (1:Int32))) nofun ⟨rfl, N38⟩ (by decide) (by decide) fun fs hr => ?_
  show St p e below s₁ m 0 #[iv i0, .val (.long i1), .second, un, un, un, un, un, un] [] _
  refine iN X0 hx hby at_0 rfl ?_
  refine XS.bipush X0.here hx rfl (hb hby at_1) ?_
  refine XS.iushr X0.here hx rfl (hb hby at_3) rfl ?_
  refine XS.bipush X0.here hx rfl (hb hby at_4) ?_
  refine Jvm.RoadKit.iremM (g := (mkF m 6 #[iv i0, .val (.long i1), .second, un, un, un, un, un, un] [(.int (7:Int32)), (.int ((i0.toUInt32 >>> ((6:Int32) &&& 31).toUInt32).toInt32))])) X0 hx rfl (hb hby at_6) rfl (by decide : ¬ ((7:Int32) = (0:Int32))) ?_
  show St p e below s₁ m 7 #[iv i0, .val (.long i1), .second, un, un, un, un, un, un] [(.int (((i0.toUInt32 >>> ((6:Int32) &&& 31).toUInt32).toInt32) % (7:Int32)))] _
  rw [pin0]
  refine XS.istoreN X0.here hx rfl (hb hby at_7) rfl (l' := #[iv i0, .val (.long i1), .second, iv (2:Int32), un, un, un, un, un]) rfl ?_
  refine st1 _ ?_
  refine aL X1 hx hby at_74 rfl rfl ?_
  refine iN X1 hx hby at_76 rfl ?_
  refine st3.trans ?_
  refine XS.astore Y3.here hx rfl (hb hby at_80) rfl rfl (l' := #[iv i0, .val (.long i1), .second, iv (2:Int32), rv b1_0, rv b3_0, un, un, un]) rfl ?_
  refine aL Y3 hx hby at_82 rfl rfl ?_
  refine st8.trans ?_
  refine XS.astore Y8.here hx rfl (hb hby at_87) rfl rfl (l' := #[iv i0, .val (.long i1), .second, iv (2:Int32), rv b1_0, rv b3_0, rv b8_0, un, un]) rfl ?_
  refine aL Y8 hx hby at_89 rfl rfl ?_
  refine XS.ifnonnullYes Y8.here hx rfl (pc0 := 91) (pc' := 96) rfl (hb hby at_91) rfl (by decide) (by decide) ?_
  refine iC Y8 hx hby at_96 ?_
  refine st9 _ ?_
  refine XS.astore X9.here hx rfl (hb hby at_99) rfl rfl (l' := #[iv i0, .val (.long i1), .second, iv (2:Int32), rv b1_0, rv b3_0, rv b8_0, rv b9, un]) rfl ?_
  refine aL X9 hx hby at_101 rfl rfl ?_
  refine iC X9 hx hby at_103 ?_
  refine iC X9 hx hby at_104 ?_
  refine st10 _ ?_
  refine iN X10 hx hby at_106 rfl ?_
  refine XS.ifNo X10.here hx rfl (hb hby at_107) rfl ((if0 _ _).trans (tlt (by decide : (0:Int32) < (2:Int32))).2.2.2) ?_
  show St p e below T10 m 110 #[iv i0, .val (.long i1), .second, iv (2:Int32), rv b1_0, rv b3_0, rv b8_0, rv b9, un] [] _
  refine aL X10 hx hby at_110 rfl rfl ?_
  refine aL X10 hx hby at_112 rfl rfl ?_
  refine aL X10 hx hby at_114 rfl rfl ?_
  refine iC X10 hx hby at_116 ?_
  refine X10.caload hx (j := (0:Int32)) (v := (.int (own_pk i0 i1 (0:Int32)))) (by rw [e10]; exact Ar15.1) (State.isArrayOf_alike hZ8.alike Ar15.2.1) Ar15.2.2 hin15 (Has.at H15 hin15 rfl) (g := (mkF m 117 #[iv i0, .val (.long i1), .second, iv (2:Int32), rv b1_0, rv b3_0, rv b8_0, rv b9, un] [(.int (0:Int32)), (.ref b1_0), (.ref b9), (.ref b8_0)])) rfl rfl (hb hby at_117) _ ?_
  refine st21 _ ?_
  refine iN X21 hx hby at_121 rfl ?_
  refine iC X21 hx hby at_122 ?_
  refine XS.icmpNo X21.here hx rfl (hb hby at_123) rfl (tlt (by decide : (1:Int32) < (2:Int32))).2.2.2 ?_
  refine aL X21 hx hby at_126 rfl rfl ?_
  refine aL X21 hx hby at_128 rfl rfl ?_
  refine aL X21 hx hby at_130 rfl rfl ?_
  refine iC X21 hx hby at_132 ?_
  refine X21.caload hx (j := (1:Int32)) (v := (.int (own_pk i0 i1 (1:Int32)))) Ar23.1 (State.isArrayOf_alike hZ8.alike Ar23.2.1) Ar23.2.2 hin23 (Has.at H23 hin23 rfl) (g := (mkF m 133 #[iv i0, .val (.long i1), .second, iv (2:Int32), rv b1_0, rv b3_0, rv b8_0, rv b9, un] [(.int (1:Int32)), (.ref b1_0), (.ref b9), (.ref b8_0)])) rfl rfl (hb hby at_133) _ ?_
  refine st28 _ ?_
  refine iN X28 hx hby at_137 rfl ?_
  refine iC X28 hx hby at_138 ?_
  refine XS.icmpYes X28.here hx rfl (pc0 := 139) (pc' := 153) rfl (hb hby at_139) rfl (flt (by decide : ¬ ((2:Int32) < (2:Int32)))).2.2.2 (by decide) (by decide) ?_
  refine iN X28 hx hby at_153 rfl ?_
  refine iC X28 hx hby at_154 ?_
  refine XS.icmpYes X28.here hx rfl (pc0 := 155) (pc' := 169) rfl (hb hby at_155) rfl (flt (by decide : ¬ ((3:Int32) < (2:Int32)))).2.2.2 (by decide) (by decide) ?_
  refine iN X28 hx hby at_169 rfl ?_
  refine iC X28 hx hby at_170 ?_
  refine XS.icmpYes X28.here hx rfl (pc0 := 171) (pc' := 185) rfl (hb hby at_171) rfl (flt (by decide : ¬ ((4:Int32) < (2:Int32)))).2.2.2 (by decide) (by decide) ?_
  refine iN X28 hx hby at_185 rfl ?_
  show St p e below T28 m 186 #[iv i0, .val (.long i1), .second, iv (2:Int32), rv b1_0, rv b3_0, rv b8_0, rv b9, un] [(.int (2:Int32))] _
  refine iC X28 hx hby at_186 ?_
  refine XS.icmpYes X28.here hx rfl (pc0 := 187) (pc' := 201) rfl (hb hby at_187) rfl (flt (by decide : ¬ ((5:Int32) < (2:Int32)))).2.2.2 (by decide) (by decide) ?_
  refine aL X28 hx hby at_201 rfl rfl ?_
  refine iC X28 hx hby at_203 ?_
  refine X28.iaload hx (j := (0:Int32)) (v := (.int (own_nf (own_nf (0:Int32) (own_pk i0 i1 (0:Int32))) (own_pk i0 i1 (1:Int32))))) Ar30.1 (State.isArrayOf_alike hZ8.alike Ar30.2.1) Ar30.2.2 hin30 (Has.at H30 hin30 rfl) (g := (mkF m 204 #[iv i0, .val (.long i1), .second, iv (2:Int32), rv b1_0, rv b3_0, rv b8_0, rv b9, un] [(.int (0:Int32)), (.ref b9)])) rfl rfl (hb hby at_204) _ ?_
  refine XS.istore X28.here hx rfl (hb hby at_205) rfl (l' := #[iv i0, .val (.long i1), .second, iv (2:Int32), rv b1_0, rv b3_0, rv b8_0, rv b9, iv (own_nf (own_nf (0:Int32) (own_pk i0 i1 (0:Int32))) (own_pk i0 i1 (1:Int32)))]) rfl ?_
  refine aL X28 hx hby at_207 rfl rfl ?_
  refine iC X28 hx hby at_209 ?_
  refine X28.iaload hx (j := (2:Int32)) (v := (.int (1:Int32))) Ar31.1 (State.isArrayOf_alike hZ8.alike Ar31.2.1) Ar31.2.2 hin31 (Has.at H31 hin31 rfl) (g := (mkF m 210 #[iv i0, .val (.long i1), .second, iv (2:Int32), rv b1_0, rv b3_0, rv b8_0, rv b9, iv (own_nf (own_nf (0:Int32) (own_pk i0 i1 (0:Int32))) (own_pk i0 i1 (1:Int32)))] [(.int (2:Int32)), (.ref b9)])) rfl rfl (hb hby at_210) _ ?_
  refine iC X28 hx hby at_211 ?_
  refine XS.icmpNo X28.here hx rfl (hb hby at_212) rfl (teq (rfl : (1:Int32) = (1:Int32))).2 ?_
  refine iL X28 hx hby at_215 rfl ?_
  refine aL X28 hx hby at_217 rfl rfl ?_
  refine own_rlen X28 hx hZ8 f33 rfl (g := (mkF m 219 #[iv i0, .val (.long i1), .second, iv (2:Int32), rv b1_0, rv b3_0, rv b8_0, rv b9, iv (own_nf (own_nf (0:Int32) (own_pk i0 i1 (0:Int32))) (own_pk i0 i1 (1:Int32)))] [(.ref b8_0), (.int (own_nf (own_nf (0:Int32) (own_pk i0 i1 (0:Int32))) (own_pk i0 i1 (1:Int32))))])) rfl rfl (hb hby at_219) _ ?_
  refine iC X28 hx hby at_220 ?_
  refine XS.isub X28.here hx rfl (hb hby at_221) rfl ?_
  refine XS.icmpNo X28.here hx rfl (hb hby at_222) rfl (teq hc34).2 ?_
  refine aL X28 hx hby at_225 rfl rfl ?_
  refine iL X28 hx hby at_227 rfl ?_
  refine st35 _ ?_
  refine XS.ifnullNo X28.here hx rfl (hb hby at_230) rfl ?_
  refine aL X28 hx hby at_233 rfl rfl ?_
  refine iL X28 hx hby at_235 rfl ?_
  refine st37 _ ?_
  refine st38.trans ?_
  show St p e below T38 m 241 #[iv i0, .val (.long i1), .second, iv (2:Int32), rv b1_0, rv b3_0, rv b8_0, rv b9, iv (own_nf (own_nf (0:Int32) (own_pk i0 i1 (0:Int32))) (own_pk i0 i1 (1:Int32)))] [(.int (own_tn (own_nth (own_sp [(own_pk i0 i1 (0:Int32)), (own_pk i0 i1 (1:Int32))]) (own_nf (own_nf (0:Int32) (own_pk i0 i1 (0:Int32))) (own_pk i0 i1 (1:Int32))))))] _
  refine aL X38 hx hby at_241 rfl rfl ?_
  refine iC X38 hx hby at_243 ?_
  refine X38.iaload hx (j := (1:Int32)) (v := (.int (own_no (own_no (0:Int32) (own_pk i0 i1 (0:Int32))) (own_pk i0 i1 (1:Int32))))) (by rw [e38]; exact Ar39.1) (State.isArrayOf_alike hZ8.alike Ar39.2.1) Ar39.2.2 hin39 (Has.at H39 hin39 rfl) (g := (mkF m 244 #[iv i0, .val (.long i1), .second, iv (2:Int32), rv b1_0, rv b3_0, rv b8_0, rv b9, iv (own_nf (own_nf (0:Int32) (own_pk i0 i1 (0:Int32))) (own_pk i0 i1 (1:Int32)))] [(.int (1:Int32)), (.ref b9), (.int (own_tn (own_nth (own_sp [(own_pk i0 i1 (0:Int32)), (own_pk i0 i1 (1:Int32))]) (own_nf (own_nf (0:Int32) (own_pk i0 i1 (0:Int32))) (own_pk i0 i1 (1:Int32))))))])) rfl rfl (hb hby at_244) _ ?_
  refine XS.icmpNo X38.here hx rfl (hb hby at_245) rfl (teq hc40).2 ?_
  refine iC X38 hx hby at_248 ?_
  refine XS.goto X38.here hx rfl (pc0 := 249) (pc' := 253) rfl (hb hby at_249) (by decide) (by decide) ?_
  exact retN X38 hx (t := .boolean) Bd.returns (by simp) (hb hby at_253) hr
theorem d2_47 : dk method_4_code 47 (.iload_n 1) 1 := by decide +kernel
theorem d2_48 : dk method_4_code 48 (.iconst 3) 1 := by decide +kernel
theorem d2_49 : dk method_4_code 49 (.if_icmp .ne 32) 3 := by decide +kernel
theorem d2_52 : dk method_4_code 52 (.new 28) 3 := by decide +kernel
theorem d2_55 : dk method_4_code 55 .dup 1 := by decide +kernel
theorem d2_56 : dk method_4_code 56 (.iconst 3) 1 := by decide +kernel
theorem d2_57 : dk method_4_code 57 (.newarray .char) 2 := by decide +kernel
theorem d2_59 : dk method_4_code 59 .dup 1 := by decide +kernel
theorem d2_60 : dk method_4_code 60 (.iconst 0) 1 := by decide +kernel
theorem d2_61 : dk method_4_code 61 (.aload_n 0) 1 := by decide +kernel
theorem d2_62 : dk method_4_code 62 (.iconst 0) 1 := by decide +kernel
theorem d2_63 : dk method_4_code 63 .caload 1 := by decide +kernel
theorem d2_64 : dk method_4_code 64 .castore 1 := by decide +kernel
theorem d2_65 : dk method_4_code 65 .dup 1 := by decide +kernel
theorem d2_66 : dk method_4_code 66 (.iconst 1) 1 := by decide +kernel
theorem d2_67 : dk method_4_code 67 (.aload_n 0) 1 := by decide +kernel
theorem d2_68 : dk method_4_code 68 (.iconst 1) 1 := by decide +kernel
theorem d2_69 : dk method_4_code 69 .caload 1 := by decide +kernel
theorem d2_70 : dk method_4_code 70 .castore 1 := by decide +kernel
theorem d2_71 : dk method_4_code 71 .dup 1 := by decide +kernel
theorem d2_72 : dk method_4_code 72 (.iconst 2) 1 := by decide +kernel
theorem d2_73 : dk method_4_code 73 (.aload_n 0) 1 := by decide +kernel
theorem d2_74 : dk method_4_code 74 (.iconst 2) 1 := by decide +kernel
theorem d2_75 : dk method_4_code 75 .caload 1 := by decide +kernel
theorem d2_76 : dk method_4_code 76 .castore 1 := by decide +kernel
theorem d2_77 : dk method_4_code 77 (.invokespecial 39) 3 := by decide +kernel
theorem d2_80 : dk method_4_code 80 .areturn 1 := by decide +kernel
def r2_4Q (Z : State) (a1 : Addr) (k2 : ClassId) (p3 p4 p5 p6 p7 p8 p40:Int32) (h0 : Heap) (n0 : Nat) : QT := fun v h L => own_strQ Z [p3, p4, p5] h0 n0 v h L
theorem r2_4 (l : Launch) (Z : State) (a0 : Array Value) (hw : HW a0 Z) (ws : List Jvm.Cond) (a1 : Addr) (k2 : ClassId) (p3 p4 p5 p6 p7 p8 p40:Int32) (h0 : Heap) (n0 : Nat) (O0 : Old Z n0 h0) (H9 : Arv Z h0 a1 k2 .char (6:Int32) [(.int p3), (.int p4), (.int p5), (.int p6), (.int p7), (.int p8)] (.int (0:Int32))) (H20 : xE0 Z h0 a1) (H41 : Sta Z Z.heap "java/lang/String" "COMPACT_STRINGS" "Z" (.int p40)) (hc42 : ¬ (p40 = (0:Int32))) (hc43 : ¬ ((nar .char p5) < (0:Int32)) ∧ ¬ ((255:Int32) < (nar .char p5))) (hc44 : ¬ ((nar .char p4) < (0:Int32)) ∧ ¬ ((255:Int32) < (nar .char p4))) (hc45 : ¬ ((nar .char p3) < (0:Int32)) ∧ ¬ ((255:Int32) < (nar .char p3))) (H50 : nar .char p3 = p3) (H51 : nar .char p4 = p4) (H52 : nar .char p5 = p5) :
    MFH l y2 method_4_code 2 (some (.object "java/lang/String")) ws (rM 4 3 10 66) Z #[(.ref a1), (.int (3:Int32))] h0 (r2_4Q Z a1 k2 p3 p4 p5 p6 p7 p8 p40 h0 n0) := by
  refine own_inH (pq pn0) #[rv a1, iv (3:Int32)] (fun _ => by first | (simp [entryFrame, mkF, argsToLocals, Value.category]; done) | rfl) ?_
  intro p e s m below meth c s₁ Bd hx hby hml hown hnm hZ hh C0 e0 X0
  have N0 := Fr.nil n0
  obtain ⟨_, h10, X10, e10, E10, A10, D10, -, st10⟩ := newO X0 hx hZ hown (ow hw 130 rfl) (ow hw 10 rfl) (ow hw 9 rfl) e0 (g := (mkF m 52 #[rv a1, iv (3:Int32)] [])) rfl (hb hby d2_52) (by decide) (by decide)
  obtain ⟨b10, g10⟩ : ∃ z, z = h0.size := ⟨_, rfl⟩
  rw [← g10] at A10 D10 st10
  have O_E10 : Old Z n0 h10 := O0.ext E10
  have Kp_E10 : Keep h0 h10 [] := (Keep.refl h0 []).ext E10
  have c_E10 := CHr.ext E10 C0.1
  have C_E10 := C0.trans c_E10
  obtain ⟨_, h11, k11, X11, e11, E11, A11, C11, st11⟩ := newPE X10 hx hZ (aty := .char) (ow hw 0 rfl) e10 (g := (mkF m 57 #[rv a1, iv (3:Int32)] [(.int (3:Int32)), (.ref b10), (.ref b10)])) rfl (hb hby d2_57) rfl (by decide) (cap := 3) (by decide) (by decide) (by decide) (by decide) (ad := "[C") (by decide)
  obtain ⟨b11, g11⟩ : ∃ z, z = h10.size := ⟨_, rfl⟩
  rw [← g11] at A11 C11 st11
  have O_E11 : Old Z n0 h11 := O_E10.ext E11
  have Kp_E11 : Keep h0 h11 [] := Kp_E10.ext E11
  have c_E11 := CHr.ext E11 C_E10.1
  have C_E11 := C_E10.trans c_E11
  have V11 : Arv Z h11 b11 k11 .char (3:Int32) [(.int (0:Int32)), (.int (0:Int32)), (.int (0:Int32))] (.int (0:Int32)) := (Arv.new A11 (by decide)).pad (pad_rep [] (.int (0:Int32)) 3)
  have f13 := ((H9.ext E10).ext E11)
  obtain ⟨cl12, Ar12, _, S12, _, H12, _⟩ := id f13
  have hin12 : ¬ ((0:Int32) < 0 ∨ cl12.slots.size ≤ ((0:Int32)).toNatClampNeg) := inb_of S12 ⟨by decide, by decide⟩
  obtain ⟨cl14, Ar14, q14, S14, M14, H14, G14⟩ := id V11
  have hin14 : ¬ ((0:Int32) < 0 ∨ cl14.slots.size ≤ ((0:Int32)).toNatClampNeg) := inb_of S14 ⟨by decide, by decide⟩
  obtain ⟨T14, h14, X14, e14, W14, st14⟩ := stC X11 hx hZ e11 Ar14 (j := (0:Int32)) hin14 (g := (mkF m 64 #[rv a1, iv (3:Int32)] [(.int p3), (.int (0:Int32)), (.ref b11), (.ref b11), (.ref b10), (.ref b10)])) rfl rfl (hb hby d2_64)
  have g16 : n0 ≤ b11 := Nat.le_trans (Nat.le_trans (Nat.le_of_eq O_E10.1.symm) O_E10.2.1) (Nat.le_of_eq g11.symm)
  have z17 : h0.size ≤ b11 := Nat.le_trans Kp_E10.1 (Nat.le_of_eq g11.symm)
  have O_W14 : Old Z n0 h14 := O_E11.wr W14 g16
  have Kp_W14 : Keep h0 h14 [] := Kp_E11.wr W14 (Or.inr z17)
  have c_W14 := CHr.wr W14 (Safe.ext E11 C_E10.1 (Safe.new (Nat.le_of_eq g11.symm))) C_E11.1
  have C_W14 := C_E11.trans c_W14
  have N18 := Fr.snoc X14 N0 g16
  have f15 : Arv Z h14 b11 k11 .char (3:Int32) [(.int (nar .char p3)), (.int (0:Int32)), (.int (0:Int32))] (.int (0:Int32)) := Arv.set Ar14 q14 S14 M14 H14 G14 (fits_nar_char _) W14 0 rfl (Nat.le_of_ble_eq_true rfl)
  have ne22 : a1 ≠ b11 := Nat.ne_of_lt (Nat.lt_of_lt_of_le (H20.ext E10).lt (Nat.le_of_eq g11.symm))
  have f23 := (f13.other W14 ne22)
  obtain ⟨cl19, Ar19, _, S19, _, H19, _⟩ := id f23
  have hin19 : ¬ ((1:Int32) < 0 ∨ cl19.slots.size ≤ ((1:Int32)).toNatClampNeg) := inb_of S19 ⟨by decide, by decide⟩
  obtain ⟨cl24, Ar24, q24, S24, M24, H24, G24⟩ := id f15
  have hin24 : ¬ ((1:Int32) < 0 ∨ cl24.slots.size ≤ ((1:Int32)).toNatClampNeg) := inb_of S24 ⟨by decide, by decide⟩
  obtain ⟨_, h24, X24, e24, W24, st24⟩ := stC X14 hx hZ e14 Ar24 (j := (1:Int32)) hin24 (g := (mkF m 70 #[rv a1, iv (3:Int32)] [(.int p4), (.int (1:Int32)), (.ref b11), (.ref b11), (.ref b10), (.ref b10)])) rfl rfl (hb hby d2_70)
  have sf26 := (c_W14.safe C11.lt (Safe.ext E11 C_E10.1 (Safe.new (Nat.le_of_eq g11.symm))))
  have O_W24 : Old Z n0 h24 := O_W14.wr W24 g16
  have Kp_W24 : Keep h0 h24 [] := Kp_W14.wr W24 (Or.inr z17)
  have c_W24 := CHr.wr W24 sf26 C_W14.1
  have C_W24 := C_W14.trans c_W24
  have N27 := Fr.snoc X24 N18 g16
  have f25 : Arv Z h24 b11 k11 .char (3:Int32) [(.int (nar .char p3)), (.int (nar .char p4)), (.int (0:Int32))] (.int (0:Int32)) := Arv.set Ar24 q24 S24 M24 H24 G24 (fits_nar_char _) W24 1 rfl (Nat.le_of_ble_eq_true rfl)
  have f29 := (f23.other W24 ne22)
  obtain ⟨cl28, Ar28, _, S28, _, H28, _⟩ := id f29
  have hin28 : ¬ ((2:Int32) < 0 ∨ cl28.slots.size ≤ ((2:Int32)).toNatClampNeg) := inb_of S28 ⟨by decide, by decide⟩
  obtain ⟨cl30, Ar30, q30, S30, M30, H30, G30⟩ := id f25
  have hin30 : ¬ ((2:Int32) < 0 ∨ cl30.slots.size ≤ ((2:Int32)).toNatClampNeg) := inb_of S30 ⟨by decide, by decide⟩
  obtain ⟨_, h30, X30, e30, W30, st30⟩ := stC X24 hx hZ e24 Ar30 (j := (2:Int32)) hin30 (g := (mkF m 76 #[rv a1, iv (3:Int32)] [(.int p5), (.int (2:Int32)), (.ref b11), (.ref b11), (.ref b10), (.ref b10)])) rfl rfl (hb hby d2_76)
  have sf32 := (c_W24.safe (C11.wr W14).lt sf26)
  have O_W30 : Old Z n0 h30 := O_W24.wr W30 g16
  have Kp_W30 : Keep h0 h30 [] := Kp_W24.wr W30 (Or.inr z17)
  have c_W30 := CHr.wr W30 sf32 C_W24.1
  have C_W30 := C_W24.trans c_W30
  have N33 := Fr.snoc X30 N27 g16
  have f31 : Arv Z h30 b11 k11 .char (3:Int32) [(.int (nar .char p3)), (.int (nar .char p4)), (.int (nar .char p5))] (.int (0:Int32)) := Arv.set Ar30 q30 S30 M30 H30 G30 (fits_nar_char _) W30 2 rfl (Nat.le_of_ble_eq_true rfl)
  have f34 := ((((A10.ext E11).wr W14).wr W24).wr W30)
  have f35 : xF3 Z h10 b10 .null := D10 (Or.inr (ow hw 12 rfl)) (ty := (.array .byte)) (by decide)
  have ne36 : b10 ≠ b11 := Nat.ne_of_lt (Nat.lt_of_lt_of_le A10.lt (Nat.le_of_eq g11.symm))
  have f37 := ((((f35.ext E11).other W14 (Or.inl ne36)).other W24 (Or.inl ne36)).other W30 (Or.inl ne36))
  have f38 : xF2 Z h10 b10 (.int (0:Int32)) := D10 (Or.inr (ow hw 13 rfl)) (ty := .byte) (by decide)
  have f39 := ((((f38.ext E11).other W14 (Or.inl ne36)).other W24 (Or.inl ne36)).other W30 (Or.inl ne36))
  have g46 : n0 ≤ b10 := Nat.le_trans (Nat.le_trans (Nat.le_of_eq O0.1.symm) O0.2.1) (Nat.le_of_eq g10.symm)
  obtain ⟨T47, _, _, X47, hQ47, st47⟩ := fl X30 (X30.specialBack hx (y := y28) rfl hown (mo hZ hw 131 rfl) (mo hZ hw 132 rfl) (mo hZ hw 133 rfl) (by decide) (own_newB (W := 1) (cs := [(nar .char p3), (nar .char p4), (nar .char p5)]) (nn := 3) rfl (Nat.le_trans (Nat.le_of_eq O_W30.1.symm) O_W30.2.1) g46 hZ hw (ow hw 10 rfl) f34 f37 f39 f31 (H41.ext O_W30.2) hc42 rfl (Nat.le_of_ble_eq_true rfl) (Nat.le_of_ble_eq_true rfl) (own_allS hc45 (own_allS hc44 (own_allS hc43 own_all0))) (by decide) (by decide)) (g := (mkF m 77 #[rv a1, iv (3:Int32)] [(.ref b11), (.ref b10), (.ref b10)])) rfl (by rw [hml]; rfl) (Steps.refl _) (a := b10) (argsL := [(.ref b11)]) (rest := [(.ref b10)]) (lenOf pd17 rfl) rfl wf (hb hby d2_77) (fun _ _ => ⟨rfl, e30, (by decide : 2 + 1 ≤ _), (by decide : 7 + 3 ≤ _)⟩))
  obtain ⟨b47_0, k47_0, rfl, N47q, K47, _, f47_2, f47_3, f47_4, f47_5⟩ := hQ47
  have N47 := Fr.app N33 N47q
  have sf48 := (c_W30.safe (((A10.ext E11).wr W14).wr W24).lt (c_W24.safe ((A10.ext E11).wr W14).lt (c_W14.safe (A10.ext E11).lt (c_E11.safe A10.lt (Safe.ext E10 C0.1 (Safe.new (Nat.le_of_eq g10.symm)))))))
  have z49 : h0.size ≤ b10 := Nat.le_trans (Keep.refl h0 []).1 (Nat.le_of_eq g10.symm)
  have Kp_K47 : Keep h0 T47.heap [] := Kp_W30.trans K47 (allS (Or.inr z49) all0)
  have c_K47 := CHr.keep K47 (allS sf48 all0) C_W30.1
  have C_K47 := C_W30.trans c_K47
  refine finH (Q := r2_4Q Z a1 k2 p3 p4 p5 p6 p7 p8 p40 h0 n0) (rm := (rM 4 3 10 66)) (vm := s.vm) Bd X47 hZ (own_EW hw) C_K47 hh rfl (State.WarmedH.since (State.WarmedH.refl s) 0) (Nat.zero_le _) (some (.ref b10)) nofun ⟨b10, b47_0, k47_0, rfl, N47, Kp_K47, f47_2, f47_3, f47_4, (own_cast rfl (by rw [H50, H51, H52]) f47_5)⟩ (by decide) (by decide) fun fs hr => ?_
  show St p e below s₁ m 0 #[rv a1, iv (3:Int32)] [] _
  refine iN X0 hx hby d2_0 rfl ?_
  refine XS.ifYes X0.here hx rfl (pc0 := 1) (pc' := 7) rfl (hb hby d2_1) rfl ((if0 _ _).trans (feq (by decide : ¬ ((3:Int32) = (0:Int32)))).2) (by decide) (by decide) ?_
  refine iN X0 hx hby d2_7 rfl ?_
  refine iC X0 hx hby d2_8 ?_
  refine XS.icmpYes X0.here hx rfl (pc0 := 9) (pc' := 19) rfl (hb hby d2_9) rfl (feq (by decide : ¬ ((3:Int32) = (1:Int32)))).2 (by decide) (by decide) ?_
  refine iN X0 hx hby d2_19 rfl ?_
  refine iC X0 hx hby d2_20 ?_
  refine XS.icmpYes X0.here hx rfl (pc0 := 21) (pc' := 47) rfl (hb hby d2_21) rfl (feq (by decide : ¬ ((3:Int32) = (2:Int32)))).2 (by decide) (by decide) ?_
  refine iN X0 hx hby d2_47 rfl ?_
  refine iC X0 hx hby d2_48 ?_
  refine XS.icmpNo X0.here hx rfl (hb hby d2_49) rfl (teq (rfl : (3:Int32) = (3:Int32))).2 ?_
  refine st10 _ ?_
  refine XS.dup X10.here hx rfl (hb hby d2_55) rfl rfl ?_
  refine iC X10 hx hby d2_56 ?_
  refine st11 _ ?_
  refine XS.dup X11.here hx rfl (hb hby d2_59) rfl rfl ?_
  refine iC X11 hx hby d2_60 ?_
  refine aN X11 hx hby d2_61 rfl rfl ?_
  refine iC X11 hx hby d2_62 ?_
  refine X11.caload hx (j := (0:Int32)) (v := (.int p3)) (by rw [e11]; exact Ar12.1) (State.isArrayOf_alike hZ.alike Ar12.2.1) Ar12.2.2 hin12 (Has.at H12 hin12 rfl) (g := (mkF m 63 #[rv a1, iv (3:Int32)] [(.int (0:Int32)), (.ref a1), (.int (0:Int32)), (.ref b11), (.ref b11), (.ref b10), (.ref b10)])) rfl rfl (hb hby d2_63) _ ?_
  refine st14 _ ?_
  refine XS.dup X14.here hx rfl (hb hby d2_65) rfl rfl ?_
  refine iC X14 hx hby d2_66 ?_
  refine aN X14 hx hby d2_67 rfl rfl ?_
  refine iC X14 hx hby d2_68 ?_
  show St p e below T14 m 69 #[rv a1, iv (3:Int32)] [(.int (1:Int32)), (.ref a1), (.int (1:Int32)), (.ref b11), (.ref b11), (.ref b10), (.ref b10)] _
  refine X14.caload hx (j := (1:Int32)) (v := (.int p4)) (by rw [e14]; exact Ar19.1) (State.isArrayOf_alike hZ.alike Ar19.2.1) Ar19.2.2 hin19 (Has.at H19 hin19 rfl) (g := (mkF m 69 #[rv a1, iv (3:Int32)] [(.int (1:Int32)), (.ref a1), (.int (1:Int32)), (.ref b11), (.ref b11), (.ref b10), (.ref b10)])) rfl rfl (hb hby d2_69) _ ?_
  refine st24 _ ?_
  refine XS.dup X24.here hx rfl (hb hby d2_71) rfl rfl ?_
  refine iC X24 hx hby d2_72 ?_
  refine aN X24 hx hby d2_73 rfl rfl ?_
  refine iC X24 hx hby d2_74 ?_
  refine X24.caload hx (j := (2:Int32)) (v := (.int p5)) (by rw [e24]; exact Ar28.1) (State.isArrayOf_alike hZ.alike Ar28.2.1) Ar28.2.2 hin28 (Has.at H28 hin28 rfl) (g := (mkF m 75 #[rv a1, iv (3:Int32)] [(.int (2:Int32)), (.ref a1), (.int (2:Int32)), (.ref b11), (.ref b11), (.ref b10), (.ref b10)])) rfl rfl (hb hby d2_75) _ ?_
  refine st30 _ ?_
  refine st47.trans ?_
  exact retA X47 hx Bd.returns rfl rfl (hb hby d2_80) hr
theorem law_4 (l : Launch) (Z : State) (a0 : Array Value) (hw : HW a0 Z) (ws : List Jvm.Cond) (zCOMPACT_STRINGS:Int32) (vF : Value) (B : Base Z zCOMPACT_STRINGS vF) (i0:Int32) (i1 : Int64) (h0 : Heap) (n0 : Nat) (O0 : Old Z n0 h0) (pin0 : (((i0.toUInt32 >>> ((6:Int32) &&& 31).toUInt32).toInt32) % (7:Int32)) = (3:Int32)) (hc20 : own_ok (own_sp [(own_pk i0 i1 (0:Int32)), (own_pk i0 i1 (1:Int32)), (own_pk i0 i1 (2:Int32))]) (0:Int32) (0:Int32) (own_pk i0 i1 (0:Int32))) (hc27 : own_ok (own_sp [(own_pk i0 i1 (0:Int32)), (own_pk i0 i1 (1:Int32)), (own_pk i0 i1 (2:Int32))]) (own_nf (0:Int32) (own_pk i0 i1 (0:Int32))) (own_no (0:Int32) (own_pk i0 i1 (0:Int32))) (own_pk i0 i1 (1:Int32))) (hc34 : own_ok (own_sp [(own_pk i0 i1 (0:Int32)), (own_pk i0 i1 (1:Int32)), (own_pk i0 i1 (2:Int32))]) (own_nf (own_nf (0:Int32) (own_pk i0 i1 (0:Int32))) (own_pk i0 i1 (1:Int32))) (own_no (own_no (0:Int32) (own_pk i0 i1 (0:Int32))) (own_pk i0 i1 (1:Int32))) (own_pk i0 i1 (2:Int32))) (hc41 : (own_nf (own_nf (own_nf (0:Int32) (own_pk i0 i1 (0:Int32))) (own_pk i0 i1 (1:Int32))) (own_pk i0 i1 (2:Int32))) = ((own_n2 (own_sp [(own_pk i0 i1 (0:Int32)), (own_pk i0 i1 (1:Int32)), (own_pk i0 i1 (2:Int32))])) - (1:Int32))) (hc43 : own_inb (own_sp [(own_pk i0 i1 (0:Int32)), (own_pk i0 i1 (1:Int32)), (own_pk i0 i1 (2:Int32))]) (own_nf (own_nf (own_nf (0:Int32) (own_pk i0 i1 (0:Int32))) (own_pk i0 i1 (1:Int32))) (own_pk i0 i1 (2:Int32)))) (hc47 : (own_tn (own_nth (own_sp [(own_pk i0 i1 (0:Int32)), (own_pk i0 i1 (1:Int32)), (own_pk i0 i1 (2:Int32))]) (own_nf (own_nf (own_nf (0:Int32) (own_pk i0 i1 (0:Int32))) (own_pk i0 i1 (1:Int32))) (own_pk i0 i1 (2:Int32))))) = (own_no (own_no (own_no (0:Int32) (own_pk i0 i1 (0:Int32))) (own_pk i0 i1 (1:Int32))) (own_pk i0 i1 (2:Int32)))) :
    MFH l x code maxLocals ret ws room_1 Z #[(.int i0), (.long i1)] h0 (lawQ n0) := by
  refine own_inH (pq pn0) #[iv i0, .val (.long i1), .second, un, un, un, un, un, un] (fun _ => by first | (simp [entryFrame, mkF, argsToLocals, Value.category, maxLocals]; done) | rfl) ?_
  intro p e s m below meth c s₁ Bd hx hby hml hown hnm hZ hh C0 e0 X0
  have N0 := Fr.nil n0
  obtain ⟨B0, B1, B2, B3⟩ := B
  obtain ⟨_, h1, _, b1_0, k1_0, X1, e1, N1, K1, _, f1_2, f1_3, st1⟩ := g1_1 i0 i1 (3:Int32) ⟨X0, hx, hZ, hw, hby, hml, hown, e0, O0, N0, by decide, by decide, by decide, by decide⟩
  have O_K1 : Old Z n0 h1 := O0.keep K1 all0
  have c_K1 := CHr.keep K1 all0 C0.1
  have C_K1 := C0.trans c_K1
  obtain ⟨T3, _, _, X3, hSq3, hg3, Cq3, hQ3, st3⟩ := flH X1 (Jvm.RoadKit.callSS X1 hx (y := y2) hown (mo hZ hw 5 rfl) (mo hZ hw 6 rfl) (mo hZ hw 3 rfl) (mo hZ hw 7 rfl) (by decide) (backOfSH (s := s) (vm0 := s.vm) (W := 0) (r2_4 l Z a0 hw [] b1_0 k1_0 (own_pk i0 i1 (0:Int32)) (own_pk i0 i1 (1:Int32)) (own_pk i0 i1 (2:Int32)) (own_pk i0 i1 (3:Int32)) (own_pk i0 i1 (4:Int32)) (own_pk i0 i1 (5:Int32)) zCOMPACT_STRINGS h1 n0 O_K1 f1_2 f1_3 B0 B1 (⟨own_pkb0 _ _ _, own_pkbb _ _ _⟩) (⟨own_pkb0 _ _ _, own_pkbb _ _ _⟩) (⟨own_pkb0 _ _ _, own_pkbb _ _ _⟩) (own_pkn _ _ _) (own_pkn _ _ _) (own_pkn _ _ _)) hZ (ow hw 7 rfl) (ow hw 3 rfl) (by decide) (by decide) (own_EW hw) C_K1.1) (g := (mkF m 77 #[iv i0, .val (.long i1), .second, iv (3:Int32), rv b1_0, un, un, un, un] [(.int (3:Int32)), (.ref b1_0)])) rfl (by rw [hml]; rfl) (argsL := [(.ref b1_0), (.int (3:Int32))]) (rest := []) (lenOf pd4 rfl) rfl wf (hb hby at_77) (fun _ _ => ⟨rfl, e1, (by decide : 1 + 3 ≤ _), (by decide : 6 + 10 ≤ _)⟩))
  obtain ⟨Y3, hS3, hZ3, hown3⟩ := rebS (s := s) (vm0 := s.vm) (State.WarmedH.since (State.WarmedH.refl s) 0) (by rw [e1]; exact (Nat.zero_le _)) X3 hSq3 hg3 hZ hown
  obtain ⟨b3_0, b3_1, k3_0, rfl, N3q, K3, f3_1, f3_2, f3_3, f3_4⟩ := hQ3
  have N3 := Fr.app N1 N3q
  have O_K3 : Old Z n0 T3.heap := O_K1.keep K3 all0
  have c_K3 := Cq3
  have C_K3 := C_K1.trans c_K3
  have f4 := (f1_3.keep K3)
  have f6 := (f1_2.keep K3 nin0)
  obtain ⟨T8, _, _, X8, hSq8, hg8, Cq8, hQ8, st8⟩ := flH Y3 (Jvm.RoadKit.callSS Y3 hx (y := y3) hown3 (mo hZ3 hw 16 rfl) (mo hZ3 hw 17 rfl) (mo hZ3 hw 18 rfl) (mo hZ3 hw 19 rfl) (by decide) (backOfSH (s := s) (vm0 := T3.vm) (W := 0) (own_fields l Z a0 hw [] b3_0 b3_1 k3_0 ([(own_pk i0 i1 (0:Int32)), (own_pk i0 i1 (1:Int32)), (own_pk i0 i1 (2:Int32))]) zCOMPACT_STRINGS vF T3.heap n0 O_K3 f3_1 f3_3 f3_2 f3_4 B0 B1 (⟨Nat.le_of_ble_eq_true rfl, (own_allS (own_pkb _ _ _) (own_allS (own_pkb _ _ _) (own_allS (own_pkb _ _ _) own_all0)))⟩) B2 B3) hZ3 (ow hw 19 rfl) (ow hw 18 rfl) (by decide) (by decide) (own_EW hw) C_K3.1) (g := (mkF m 84 #[iv i0, .val (.long i1), .second, iv (3:Int32), rv b1_0, rv b3_0, un, un, un] [(.ref b3_0)])) rfl (by rw [hml]; rfl) (argsL := [(.ref b3_0)]) (rest := []) (lenOf pd0 rfl) rfl wf (hb hby at_84) (fun _ _ => ⟨rfl, rfl, (by decide : 4 + 15 ≤ _), (by decide : 16 + 77 ≤ _)⟩))
  obtain ⟨Y8, hS8, hZ8, hown8⟩ := rebS (s := s) (vm0 := T3.vm) hS3 (Nat.le_refl _) X8 hSq8 hg8 hZ3 hown3
  obtain ⟨b8_0, rfl, N8q, K8, _, f8_2⟩ := hQ8
  have N8 := Fr.app N3 N8q
  have O_K8 : Old Z n0 T8.heap := O_K3.keep K8 all0
  have c_K8 := Cq8
  have C_K8 := C_K3.trans c_K8
  obtain ⟨_, h9, k9, X9, e9, E9, A9, C9, st9⟩ := newPE Y8 hx hZ8 (aty := .int) (ow hw 86 rfl) rfl (g := (mkF m 97 #[iv i0, .val (.long i1), .second, iv (3:Int32), rv b1_0, rv b3_0, rv b8_0, un, un] [(.int (3:Int32))])) rfl (hb hby at_97) rfl (by decide) (cap := 3) (by decide) (by decide) (by decide) (by decide) (ad := "[I") (by decide)
  obtain ⟨b9, g9⟩ : ∃ z, z = T8.heap.size := ⟨_, rfl⟩
  rw [← g9] at A9 C9 st9
  have O_E9 : Old Z n0 h9 := O_K8.ext E9
  have c_E9 := CHr.ext E9 C_K8.1
  have C_E9 := C_K8.trans c_E9
  have V9 : Arv Z h9 b9 k9 .int (3:Int32) [(.int (0:Int32)), (.int (0:Int32)), (.int (0:Int32))] (.int (0:Int32)) := (Arv.new A9 (by decide)).pad (pad_rep [] (.int (0:Int32)) 3)
  obtain ⟨cl10, Ar10, q10, S10, M10, H10, G10⟩ := id V9
  have hin10 : ¬ ((2:Int32) < 0 ∨ cl10.slots.size ≤ ((2:Int32)).toNatClampNeg) := inb_of S10 ⟨by decide, by decide⟩
  obtain ⟨T10, h10, X10, e10, W10, st10⟩ := stI X9 hx hZ8 e9 Ar10 (j := (2:Int32)) hin10 (g := (mkF m 105 #[iv i0, .val (.long i1), .second, iv (3:Int32), rv b1_0, rv b3_0, rv b8_0, rv b9, un] [(.int (1:Int32)), (.int (2:Int32)), (.ref b9)])) rfl rfl (hb hby at_105)
  have g12 : n0 ≤ b9 := Nat.le_trans (Nat.le_trans (Nat.le_of_eq O_K8.1.symm) O_K8.2.1) (Nat.le_of_eq g9.symm)
  have O_W10 : Old Z n0 h10 := O_E9.wr W10 g12
  have c_W10 := CHr.wr W10 (Safe.ext E9 C_K8.1 (Safe.new (Nat.le_of_eq g9.symm))) C_E9.1
  have C_W10 := C_E9.trans c_W10
  have N14 := Fr.snoc X10 N8 g12
  have f11 : Arv Z h10 b9 k9 .int (3:Int32) [(.int (0:Int32)), (.int (0:Int32)), (.int (1:Int32))] (.int (0:Int32)) := Arv.set Ar10 q10 S10 M10 H10 G10 rfl W10 2 rfl (Nat.le_of_ble_eq_true rfl)
  have ne16 : b1_0 ≠ b9 := Nat.ne_of_lt (Nat.lt_of_lt_of_le (f4.keep K8).lt (Nat.le_of_eq g9.symm))
  have f17 := (((f6.keep K8 nin0).ext E9).other W10 ne16)
  obtain ⟨cl15, Ar15, _, S15, _, H15, _⟩ := id f17
  have hin15 : ¬ ((0:Int32) < 0 ∨ cl15.slots.size ≤ ((0:Int32)).toNatClampNeg) := inb_of S15 ⟨by decide, by decide⟩
  have f18 := ((f8_2.ext E9).keep1 (ow hw 10 rfl) (Keep.of_wr W10) V9)
  have f19 := (C9.wr W10)
  obtain ⟨T21, _, _, X21, hQ21, st21⟩ := cS X10 hx hZ8 hw hown8 (y := y26) 107 rfl 108 rfl 3 rfl 109 rfl (by decide) (W := 0) (own_step l Z a0 hw [] b8_0 b9 k9 (own_sp [(own_pk i0 i1 (0:Int32)), (own_pk i0 i1 (1:Int32)), (own_pk i0 i1 (2:Int32))]) (0:Int32) (0:Int32) (own_pk i0 i1 (0:Int32)) zCOMPACT_STRINGS vF h10 n0 O_W10 f11 f18 B0 B1 (own_gsp ⟨Nat.le_of_ble_eq_true rfl, (own_allS (own_pkb _ _ _) (own_allS (own_pkb _ _ _) (own_allS (own_pkb _ _ _) own_all0)))⟩) g12 f19 B2 B3 hc20) (by decide) (by decide) e10 (g := (mkF m 118 #[iv i0, .val (.long i1), .second, iv (3:Int32), rv b1_0, rv b3_0, rv b8_0, rv b9, un] [(.int (own_pk i0 i1 (0:Int32))), (.ref b9), (.ref b8_0)])) rfl (by rw [hml]; rfl) (argsL := [(.ref b8_0), (.ref b9), (.int (own_pk i0 i1 (0:Int32)))]) (rest := []) (lenOf pd2 rfl) rfl wf (hb hby at_118) rfl (by decide) (by decide)
  obtain ⟨rfl, N21q, K21, f21_1⟩ := hQ21
  have N21 := Fr.app N14 N21q
  have sf22 := (c_W10.safe C9.lt (Safe.ext E9 C_K8.1 (Safe.new (Nat.le_of_eq g9.symm))))
  have O_K21 : Old Z n0 T21.heap := O_W10.keep K21 (allS g12 all0)
  have c_K21 := CHr.keep K21 (allS sf22 all0) C_W10.1
  have C_K21 := C_W10.trans c_K21
  have f24 := (f17.keep K21 (ninS ne16 nin0))
  obtain ⟨cl23, Ar23, _, S23, _, H23, _⟩ := id f24
  have hin23 : ¬ ((1:Int32) < 0 ∨ cl23.slots.size ≤ ((1:Int32)).toNatClampNeg) := inb_of S23 ⟨by decide, by decide⟩
  have f25 := (f18.keep1 (ow hw 10 rfl) K21 f11)
  have f26 := (f19.keep K21)
  obtain ⟨T28, _, _, X28, hQ28, st28⟩ := cS X21 hx hZ8 hw hown8 (y := y26) 107 rfl 108 rfl 3 rfl 109 rfl (by decide) (W := 0) (own_step l Z a0 hw [] b8_0 b9 k9 (own_sp [(own_pk i0 i1 (0:Int32)), (own_pk i0 i1 (1:Int32)), (own_pk i0 i1 (2:Int32))]) (own_nf (0:Int32) (own_pk i0 i1 (0:Int32))) (own_no (0:Int32) (own_pk i0 i1 (0:Int32))) (own_pk i0 i1 (1:Int32)) zCOMPACT_STRINGS vF T21.heap n0 O_K21 f21_1 f25 B0 B1 (own_gsp ⟨Nat.le_of_ble_eq_true rfl, (own_allS (own_pkb _ _ _) (own_allS (own_pkb _ _ _) (own_allS (own_pkb _ _ _) own_all0)))⟩) g12 f26 B2 B3 hc27) (by decide) (by decide) rfl (g := (mkF m 134 #[iv i0, .val (.long i1), .second, iv (3:Int32), rv b1_0, rv b3_0, rv b8_0, rv b9, un] [(.int (own_pk i0 i1 (1:Int32))), (.ref b9), (.ref b8_0)])) rfl (by rw [hml]; rfl) (argsL := [(.ref b8_0), (.ref b9), (.int (own_pk i0 i1 (1:Int32)))]) (rest := []) (lenOf pd2 rfl) rfl wf (hb hby at_134) rfl (by decide) (by decide)
  obtain ⟨rfl, N28q, K28, f28_1⟩ := hQ28
  have N28 := Fr.app N21 N28q
  have sf29 := (c_K21.safe (C9.wr W10).lt sf22)
  have O_K28 : Old Z n0 T28.heap := O_K21.keep K28 (allS g12 all0)
  have c_K28 := CHr.keep K28 (allS sf29 all0) C_K21.1
  have C_K28 := C_K21.trans c_K28
  have f31 := (f24.keep K28 (ninS ne16 nin0))
  obtain ⟨cl30, Ar30, _, S30, _, H30, _⟩ := id f31
  have hin30 : ¬ ((2:Int32) < 0 ∨ cl30.slots.size ≤ ((2:Int32)).toNatClampNeg) := inb_of S30 ⟨by decide, by decide⟩
  have f32 := (f25.keep1 (ow hw 10 rfl) K28 f21_1)
  have f33 := (f26.keep K28)
  obtain ⟨T35, _, _, X35, hQ35, st35⟩ := cS X28 hx hZ8 hw hown8 (y := y26) 107 rfl 108 rfl 3 rfl 109 rfl (by decide) (W := 0) (own_step l Z a0 hw [] b8_0 b9 k9 (own_sp [(own_pk i0 i1 (0:Int32)), (own_pk i0 i1 (1:Int32)), (own_pk i0 i1 (2:Int32))]) (own_nf (own_nf (0:Int32) (own_pk i0 i1 (0:Int32))) (own_pk i0 i1 (1:Int32))) (own_no (own_no (0:Int32) (own_pk i0 i1 (0:Int32))) (own_pk i0 i1 (1:Int32))) (own_pk i0 i1 (2:Int32)) zCOMPACT_STRINGS vF T28.heap n0 O_K28 f28_1 f32 B0 B1 (own_gsp ⟨Nat.le_of_ble_eq_true rfl, (own_allS (own_pkb _ _ _) (own_allS (own_pkb _ _ _) (own_allS (own_pkb _ _ _) own_all0)))⟩) g12 f33 B2 B3 hc34) (by decide) (by decide) rfl (g := (mkF m 150 #[iv i0, .val (.long i1), .second, iv (3:Int32), rv b1_0, rv b3_0, rv b8_0, rv b9, un] [(.int (own_pk i0 i1 (2:Int32))), (.ref b9), (.ref b8_0)])) rfl (by rw [hml]; rfl) (argsL := [(.ref b8_0), (.ref b9), (.int (own_pk i0 i1 (2:Int32)))]) (rest := []) (lenOf pd2 rfl) rfl wf (hb hby at_150) rfl (by decide) (by decide)
  obtain ⟨rfl, N35q, K35, f35_1⟩ := hQ35
  have N35 := Fr.app N28 N35q
  have sf36 := (c_K28.safe ((C9.wr W10).keep K21).lt sf29)
  have O_K35 : Old Z n0 T35.heap := O_K28.keep K35 (allS g12 all0)
  have c_K35 := CHr.keep K35 (allS sf36 all0) C_K28.1
  have C_K35 := C_K28.trans c_K35
  obtain ⟨cl37, Ar37, _, S37, _, H37, _⟩ := id f35_1
  have hin37 : ¬ ((0:Int32) < 0 ∨ cl37.slots.size ≤ ((0:Int32)).toNatClampNeg) := inb_of S37 ⟨by decide, by decide⟩
  obtain ⟨cl38, Ar38, _, S38, _, H38, _⟩ := id f35_1
  have hin38 : ¬ ((2:Int32) < 0 ∨ cl38.slots.size ≤ ((2:Int32)).toNatClampNeg) := inb_of S38 ⟨by decide, by decide⟩
  have f40 := (f32.keep1 (ow hw 10 rfl) K35 f28_1)
  obtain ⟨_, Sx42, st42⟩ := own_rget X35 hx hZ8 f40 rfl hc43 (g := (mkF m 229 #[iv i0, .val (.long i1), .second, iv (3:Int32), rv b1_0, rv b3_0, rv b8_0, rv b9, iv (own_nf (own_nf (own_nf (0:Int32) (own_pk i0 i1 (0:Int32))) (own_pk i0 i1 (1:Int32))) (own_pk i0 i1 (2:Int32)))] [(.int (own_nf (own_nf (own_nf (0:Int32) (own_pk i0 i1 (0:Int32))) (own_pk i0 i1 (1:Int32))) (own_pk i0 i1 (2:Int32)))), (.ref b8_0)])) rfl rfl (hb hby at_229)
  obtain ⟨_, _, _, _, _, _⟩ := Sx42
  obtain ⟨a44, Sx44, st44⟩ := own_rget X35 hx hZ8 f40 rfl hc43 (g := (mkF m 237 #[iv i0, .val (.long i1), .second, iv (3:Int32), rv b1_0, rv b3_0, rv b8_0, rv b9, iv (own_nf (own_nf (own_nf (0:Int32) (own_pk i0 i1 (0:Int32))) (own_pk i0 i1 (1:Int32))) (own_pk i0 i1 (2:Int32)))] [(.int (own_nf (own_nf (own_nf (0:Int32) (own_pk i0 i1 (0:Int32))) (own_pk i0 i1 (1:Int32))) (own_pk i0 i1 (2:Int32)))), (.ref b8_0)])) rfl rfl (hb hby at_237)
  obtain ⟨_, _, Ea44, Fv44, Fc44, Av44⟩ := Sx44
  obtain ⟨_, _, q45a, _, q45c⟩ := isOf hZ8 rfl Ea44
  obtain ⟨_, _, _, X45, hQ45, st45⟩ := fl X35 (X35.virtualBack hx (y := y8) (z := y8) hown8 (mo hZ8 hw 87 rfl) (mo hZ8 hw 42 rfl) (notFace_of_selects (args := #[]) (mo hZ8 hw 44 rfl)) (mo hZ8 hw 44 rfl) (mo hZ8 hw 43 rfl) (by decide) (own_lenB (W := 0) n0 hZ8 hw (ow hw 10 rfl) Ea44 Fv44 Fc44 Av44 (own_gtn (own_gsp ⟨Nat.le_of_ble_eq_true rfl, (own_allS (own_pkb _ _ _) (own_allS (own_pkb _ _ _) (own_allS (own_pkb _ _ _) own_all0)))⟩) _) (B0.ext O_K35.2) B1 (by decide) (by decide)) q45a q45c (g := (mkF m 238 #[iv i0, .val (.long i1), .second, iv (3:Int32), rv b1_0, rv b3_0, rv b8_0, rv b9, iv (own_nf (own_nf (own_nf (0:Int32) (own_pk i0 i1 (0:Int32))) (own_pk i0 i1 (1:Int32))) (own_pk i0 i1 (2:Int32)))] [(.ref a44)])) rfl (by rw [hml]; rfl) (Steps.refl _) (argsL := []) (rest := []) (lenOf pd23 rfl) rfl wf (hb hby at_238) (fun _ _ => ⟨rfl, rfl, (by decide : 20 + 0 ≤ _), (by decide : 96 + 0 ≤ _)⟩))
  obtain ⟨rfl, N45q, e45⟩ := hQ45
  have N45 := Fr.app N35 N45q
  obtain ⟨cl46, Ar46, _, S46, _, H46, _⟩ := id f35_1
  have hin46 : ¬ ((1:Int32) < 0 ∨ cl46.slots.size ≤ ((1:Int32)).toNatClampNeg) := inb_of S46 ⟨by decide, by decide⟩
  refine finH (Q := lawQ n0) (rm := room_1) (vm := T8.vm) Bd X45 hZ8 (own_EW hw) C_K35 hh e45 hS8 (Nat.le_trans (Nat.le_trans (Nat.le_trans (Nat.le_trans (Nat.le_trans (Nat.le_refl _) E9.1) (Keep.of_wr W10).1) K21.1) K28.1) K35.1) (some (.int (1:Int32))) nofun ⟨rfl, N45⟩ (by decide) (by decide) fun fs hr => ?_
  show St p e below s₁ m 0 #[iv i0, .val (.long i1), .second, un, un, un, un, un, un] [] _
  refine iN X0 hx hby at_0 rfl ?_
  refine XS.bipush X0.here hx rfl (hb hby at_1) ?_
  refine XS.iushr X0.here hx rfl (hb hby at_3) rfl ?_
  refine XS.bipush X0.here hx rfl (hb hby at_4) ?_
  refine Jvm.RoadKit.iremM (g := (mkF m 6 #[iv i0, .val (.long i1), .second, un, un, un, un, un, un] [(.int (7:Int32)), (.int ((i0.toUInt32 >>> ((6:Int32) &&& 31).toUInt32).toInt32))])) X0 hx rfl (hb hby at_6) rfl (by decide : ¬ ((7:Int32) = (0:Int32))) ?_
  show St p e below s₁ m 7 #[iv i0, .val (.long i1), .second, un, un, un, un, un, un] [(.int (((i0.toUInt32 >>> ((6:Int32) &&& 31).toUInt32).toInt32) % (7:Int32)))] _
  rw [pin0]
  refine XS.istoreN X0.here hx rfl (hb hby at_7) rfl (l' := #[iv i0, .val (.long i1), .second, iv (3:Int32), un, un, un, un, un]) rfl ?_
  refine st1 _ ?_
  refine aL X1 hx hby at_74 rfl rfl ?_
  refine iN X1 hx hby at_76 rfl ?_
  refine st3.trans ?_
  refine XS.astore Y3.here hx rfl (hb hby at_80) rfl rfl (l' := #[iv i0, .val (.long i1), .second, iv (3:Int32), rv b1_0, rv b3_0, un, un, un]) rfl ?_
  refine aL Y3 hx hby at_82 rfl rfl ?_
  refine st8.trans ?_
  refine XS.astore Y8.here hx rfl (hb hby at_87) rfl rfl (l' := #[iv i0, .val (.long i1), .second, iv (3:Int32), rv b1_0, rv b3_0, rv b8_0, un, un]) rfl ?_
  refine aL Y8 hx hby at_89 rfl rfl ?_
  refine XS.ifnonnullYes Y8.here hx rfl (pc0 := 91) (pc' := 96) rfl (hb hby at_91) rfl (by decide) (by decide) ?_
  refine iC Y8 hx hby at_96 ?_
  refine st9 _ ?_
  refine XS.astore X9.here hx rfl (hb hby at_99) rfl rfl (l' := #[iv i0, .val (.long i1), .second, iv (3:Int32), rv b1_0, rv b3_0, rv b8_0, rv b9, un]) rfl ?_
  refine aL X9 hx hby at_101 rfl rfl ?_
  refine iC X9 hx hby at_103 ?_
  refine iC X9 hx hby at_104 ?_
  refine st10 _ ?_
  refine iN X10 hx hby at_106 rfl ?_
  refine XS.ifNo X10.here hx rfl (hb hby at_107) rfl ((if0 _ _).trans (tlt (by decide : (0:Int32) < (3:Int32))).2.2.2) ?_
  show St p e below T10 m 110 #[iv i0, .val (.long i1), .second, iv (3:Int32), rv b1_0, rv b3_0, rv b8_0, rv b9, un] [] _
  refine aL X10 hx hby at_110 rfl rfl ?_
  refine aL X10 hx hby at_112 rfl rfl ?_
  refine aL X10 hx hby at_114 rfl rfl ?_
  refine iC X10 hx hby at_116 ?_
  refine X10.caload hx (j := (0:Int32)) (v := (.int (own_pk i0 i1 (0:Int32)))) (by rw [e10]; exact Ar15.1) (State.isArrayOf_alike hZ8.alike Ar15.2.1) Ar15.2.2 hin15 (Has.at H15 hin15 rfl) (g := (mkF m 117 #[iv i0, .val (.long i1), .second, iv (3:Int32), rv b1_0, rv b3_0, rv b8_0, rv b9, un] [(.int (0:Int32)), (.ref b1_0), (.ref b9), (.ref b8_0)])) rfl rfl (hb hby at_117) _ ?_
  refine st21 _ ?_
  refine iN X21 hx hby at_121 rfl ?_
  refine iC X21 hx hby at_122 ?_
  refine XS.icmpNo X21.here hx rfl (hb hby at_123) rfl (tlt (by decide : (1:Int32) < (3:Int32))).2.2.2 ?_
  refine aL X21 hx hby at_126 rfl rfl ?_
  refine aL X21 hx hby at_128 rfl rfl ?_
  refine aL X21 hx hby at_130 rfl rfl ?_
  refine iC X21 hx hby at_132 ?_
  refine X21.caload hx (j := (1:Int32)) (v := (.int (own_pk i0 i1 (1:Int32)))) Ar23.1 (State.isArrayOf_alike hZ8.alike Ar23.2.1) Ar23.2.2 hin23 (Has.at H23 hin23 rfl) (g := (mkF m 133 #[iv i0, .val (.long i1), .second, iv (3:Int32), rv b1_0, rv b3_0, rv b8_0, rv b9, un] [(.int (1:Int32)), (.ref b1_0), (.ref b9), (.ref b8_0)])) rfl rfl (hb hby at_133) _ ?_
  refine st28 _ ?_
  refine iN X28 hx hby at_137 rfl ?_
  refine iC X28 hx hby at_138 ?_
  refine XS.icmpNo X28.here hx rfl (hb hby at_139) rfl (tlt (by decide : (2:Int32) < (3:Int32))).2.2.2 ?_
  refine aL X28 hx hby at_142 rfl rfl ?_
  refine aL X28 hx hby at_144 rfl rfl ?_
  refine aL X28 hx hby at_146 rfl rfl ?_
  refine iC X28 hx hby at_148 ?_
  refine X28.caload hx (j := (2:Int32)) (v := (.int (own_pk i0 i1 (2:Int32)))) Ar30.1 (State.isArrayOf_alike hZ8.alike Ar30.2.1) Ar30.2.2 hin30 (Has.at H30 hin30 rfl) (g := (mkF m 149 #[iv i0, .val (.long i1), .second, iv (3:Int32), rv b1_0, rv b3_0, rv b8_0, rv b9, un] [(.int (2:Int32)), (.ref b1_0), (.ref b9), (.ref b8_0)])) rfl rfl (hb hby at_149) _ ?_
  refine st35 _ ?_
  refine iN X35 hx hby at_153 rfl ?_
  show St p e below T35 m 154 #[iv i0, .val (.long i1), .second, iv (3:Int32), rv b1_0, rv b3_0, rv b8_0, rv b9, un] [(.int (3:Int32))] _
  refine iC X35 hx hby at_154 ?_
  refine XS.icmpYes X35.here hx rfl (pc0 := 155) (pc' := 169) rfl (hb hby at_155) rfl (flt (by decide : ¬ ((3:Int32) < (3:Int32)))).2.2.2 (by decide) (by decide) ?_
  refine iN X35 hx hby at_169 rfl ?_
  refine iC X35 hx hby at_170 ?_
  refine XS.icmpYes X35.here hx rfl (pc0 := 171) (pc' := 185) rfl (hb hby at_171) rfl (flt (by decide : ¬ ((4:Int32) < (3:Int32)))).2.2.2 (by decide) (by decide) ?_
  refine iN X35 hx hby at_185 rfl ?_
  refine iC X35 hx hby at_186 ?_
  refine XS.icmpYes X35.here hx rfl (pc0 := 187) (pc' := 201) rfl (hb hby at_187) rfl (flt (by decide : ¬ ((5:Int32) < (3:Int32)))).2.2.2 (by decide) (by decide) ?_
  refine aL X35 hx hby at_201 rfl rfl ?_
  refine iC X35 hx hby at_203 ?_
  refine X35.iaload hx (j := (0:Int32)) (v := (.int (own_nf (own_nf (own_nf (0:Int32) (own_pk i0 i1 (0:Int32))) (own_pk i0 i1 (1:Int32))) (own_pk i0 i1 (2:Int32))))) Ar37.1 (State.isArrayOf_alike hZ8.alike Ar37.2.1) Ar37.2.2 hin37 (Has.at H37 hin37 rfl) (g := (mkF m 204 #[iv i0, .val (.long i1), .second, iv (3:Int32), rv b1_0, rv b3_0, rv b8_0, rv b9, un] [(.int (0:Int32)), (.ref b9)])) rfl rfl (hb hby at_204) _ ?_
  refine XS.istore X35.here hx rfl (hb hby at_205) rfl (l' := #[iv i0, .val (.long i1), .second, iv (3:Int32), rv b1_0, rv b3_0, rv b8_0, rv b9, iv (own_nf (own_nf (own_nf (0:Int32) (own_pk i0 i1 (0:Int32))) (own_pk i0 i1 (1:Int32))) (own_pk i0 i1 (2:Int32)))]) rfl ?_
  refine aL X35 hx hby at_207 rfl rfl ?_
  refine iC X35 hx hby at_209 ?_
  refine X35.iaload hx (j := (2:Int32)) (v := (.int (1:Int32))) Ar38.1 (State.isArrayOf_alike hZ8.alike Ar38.2.1) Ar38.2.2 hin38 (Has.at H38 hin38 rfl) (g := (mkF m 210 #[iv i0, .val (.long i1), .second, iv (3:Int32), rv b1_0, rv b3_0, rv b8_0, rv b9, iv (own_nf (own_nf (own_nf (0:Int32) (own_pk i0 i1 (0:Int32))) (own_pk i0 i1 (1:Int32))) (own_pk i0 i1 (2:Int32)))] [(.int (2:Int32)), (.ref b9)])) rfl rfl (hb hby at_210) _ ?_
  refine iC X35 hx hby at_211 ?_
  refine XS.icmpNo X35.here hx rfl (hb hby at_212) rfl (teq (rfl : (1:Int32) = (1:Int32))).2 ?_
  refine iL X35 hx hby at_215 rfl ?_
  refine aL X35 hx hby at_217 rfl rfl ?_
  refine own_rlen X35 hx hZ8 f40 rfl (g := (mkF m 219 #[iv i0, .val (.long i1), .second, iv (3:Int32), rv b1_0, rv b3_0, rv b8_0, rv b9, iv (own_nf (own_nf (own_nf (0:Int32) (own_pk i0 i1 (0:Int32))) (own_pk i0 i1 (1:Int32))) (own_pk i0 i1 (2:Int32)))] [(.ref b8_0), (.int (own_nf (own_nf (own_nf (0:Int32) (own_pk i0 i1 (0:Int32))) (own_pk i0 i1 (1:Int32))) (own_pk i0 i1 (2:Int32))))])) rfl rfl (hb hby at_219) _ ?_
  refine iC X35 hx hby at_220 ?_
  refine XS.isub X35.here hx rfl (hb hby at_221) rfl ?_
  refine XS.icmpNo X35.here hx rfl (hb hby at_222) rfl (teq hc41).2 ?_
  refine aL X35 hx hby at_225 rfl rfl ?_
  refine iL X35 hx hby at_227 rfl ?_
  show St p e below T35 m 229 #[iv i0, .val (.long i1), .second, iv (3:Int32), rv b1_0, rv b3_0, rv b8_0, rv b9, iv (own_nf (own_nf (own_nf (0:Int32) (own_pk i0 i1 (0:Int32))) (own_pk i0 i1 (1:Int32))) (own_pk i0 i1 (2:Int32)))] [(.int (own_nf (own_nf (own_nf (0:Int32) (own_pk i0 i1 (0:Int32))) (own_pk i0 i1 (1:Int32))) (own_pk i0 i1 (2:Int32)))), (.ref b8_0)] _
  refine st42 _ ?_
  refine XS.ifnullNo X35.here hx rfl (hb hby at_230) rfl ?_
  refine aL X35 hx hby at_233 rfl rfl ?_
  refine iL X35 hx hby at_235 rfl ?_
  refine st44 _ ?_
  refine st45.trans ?_
  refine aL X45 hx hby at_241 rfl rfl ?_
  refine iC X45 hx hby at_243 ?_
  refine X45.iaload hx (j := (1:Int32)) (v := (.int (own_no (own_no (own_no (0:Int32) (own_pk i0 i1 (0:Int32))) (own_pk i0 i1 (1:Int32))) (own_pk i0 i1 (2:Int32))))) (by rw [e45]; exact Ar46.1) (State.isArrayOf_alike hZ8.alike Ar46.2.1) Ar46.2.2 hin46 (Has.at H46 hin46 rfl) (g := (mkF m 244 #[iv i0, .val (.long i1), .second, iv (3:Int32), rv b1_0, rv b3_0, rv b8_0, rv b9, iv (own_nf (own_nf (own_nf (0:Int32) (own_pk i0 i1 (0:Int32))) (own_pk i0 i1 (1:Int32))) (own_pk i0 i1 (2:Int32)))] [(.int (1:Int32)), (.ref b9), (.int (own_tn (own_nth (own_sp [(own_pk i0 i1 (0:Int32)), (own_pk i0 i1 (1:Int32)), (own_pk i0 i1 (2:Int32))]) (own_nf (own_nf (own_nf (0:Int32) (own_pk i0 i1 (0:Int32))) (own_pk i0 i1 (1:Int32))) (own_pk i0 i1 (2:Int32))))))])) rfl rfl (hb hby at_244) _ ?_
  refine XS.icmpNo X45.here hx rfl (hb hby at_245) rfl (teq hc47).2 ?_
  refine iC X45 hx hby at_248 ?_
  refine XS.goto X45.here hx rfl (pc0 := 249) (pc' := 253) rfl (hb hby at_249) (by decide) (by decide) ?_
  exact retN X45 hx (t := .boolean) Bd.returns (by simp) (hb hby at_253) hr
theorem d2_81 : dk method_4_code 81 (.iload_n 1) 1 := by decide +kernel
theorem d2_82 : dk method_4_code 82 (.iconst 4) 1 := by decide +kernel
theorem d2_83 : dk method_4_code 83 (.if_icmp .ne 38) 3 := by decide +kernel
theorem d2_86 : dk method_4_code 86 (.new 28) 3 := by decide +kernel
theorem d2_89 : dk method_4_code 89 .dup 1 := by decide +kernel
theorem d2_90 : dk method_4_code 90 (.iconst 4) 1 := by decide +kernel
theorem d2_91 : dk method_4_code 91 (.newarray .char) 2 := by decide +kernel
theorem d2_93 : dk method_4_code 93 .dup 1 := by decide +kernel
theorem d2_94 : dk method_4_code 94 (.iconst 0) 1 := by decide +kernel
theorem d2_95 : dk method_4_code 95 (.aload_n 0) 1 := by decide +kernel
theorem d2_96 : dk method_4_code 96 (.iconst 0) 1 := by decide +kernel
theorem d2_97 : dk method_4_code 97 .caload 1 := by decide +kernel
theorem d2_98 : dk method_4_code 98 .castore 1 := by decide +kernel
theorem d2_99 : dk method_4_code 99 .dup 1 := by decide +kernel
theorem d2_100 : dk method_4_code 100 (.iconst 1) 1 := by decide +kernel
theorem d2_101 : dk method_4_code 101 (.aload_n 0) 1 := by decide +kernel
theorem d2_102 : dk method_4_code 102 (.iconst 1) 1 := by decide +kernel
theorem d2_103 : dk method_4_code 103 .caload 1 := by decide +kernel
theorem d2_104 : dk method_4_code 104 .castore 1 := by decide +kernel
theorem d2_105 : dk method_4_code 105 .dup 1 := by decide +kernel
theorem d2_106 : dk method_4_code 106 (.iconst 2) 1 := by decide +kernel
theorem d2_107 : dk method_4_code 107 (.aload_n 0) 1 := by decide +kernel
theorem d2_108 : dk method_4_code 108 (.iconst 2) 1 := by decide +kernel
theorem d2_109 : dk method_4_code 109 .caload 1 := by decide +kernel
theorem d2_110 : dk method_4_code 110 .castore 1 := by decide +kernel
theorem d2_111 : dk method_4_code 111 .dup 1 := by decide +kernel
theorem d2_112 : dk method_4_code 112 (.iconst 3) 1 := by decide +kernel
theorem d2_113 : dk method_4_code 113 (.aload_n 0) 1 := by decide +kernel
theorem d2_114 : dk method_4_code 114 (.iconst 3) 1 := by decide +kernel
theorem d2_115 : dk method_4_code 115 .caload 1 := by decide +kernel
theorem d2_116 : dk method_4_code 116 .castore 1 := by decide +kernel
theorem d2_117 : dk method_4_code 117 (.invokespecial 39) 3 := by decide +kernel
theorem d2_120 : dk method_4_code 120 .areturn 1 := by decide +kernel
def r2_5Q (Z : State) (a1 : Addr) (k2 : ClassId) (p3 p4 p5 p6 p7 p8 p46:Int32) (h0 : Heap) (n0 : Nat) : QT := fun v h L => own_strQ Z [p3, p4, p5, p6] h0 n0 v h L
theorem r2_5 (l : Launch) (Z : State) (a0 : Array Value) (hw : HW a0 Z) (ws : List Jvm.Cond) (a1 : Addr) (k2 : ClassId) (p3 p4 p5 p6 p7 p8 p46:Int32) (h0 : Heap) (n0 : Nat) (O0 : Old Z n0 h0) (H9 : Arv Z h0 a1 k2 .char (6:Int32) [(.int p3), (.int p4), (.int p5), (.int p6), (.int p7), (.int p8)] (.int (0:Int32))) (H20 : xE0 Z h0 a1) (H47 : Sta Z Z.heap "java/lang/String" "COMPACT_STRINGS" "Z" (.int p46)) (hc48 : ¬ (p46 = (0:Int32))) (hc49 : ¬ ((nar .char p6) < (0:Int32)) ∧ ¬ ((255:Int32) < (nar .char p6))) (hc50 : ¬ ((nar .char p5) < (0:Int32)) ∧ ¬ ((255:Int32) < (nar .char p5))) (hc51 : ¬ ((nar .char p4) < (0:Int32)) ∧ ¬ ((255:Int32) < (nar .char p4))) (hc52 : ¬ ((nar .char p3) < (0:Int32)) ∧ ¬ ((255:Int32) < (nar .char p3))) (H57 : nar .char p3 = p3) (H58 : nar .char p4 = p4) (H59 : nar .char p5 = p5) (H60 : nar .char p6 = p6) :
    MFH l y2 method_4_code 2 (some (.object "java/lang/String")) ws (rM 4 3 12 66) Z #[(.ref a1), (.int (4:Int32))] h0 (r2_5Q Z a1 k2 p3 p4 p5 p6 p7 p8 p46 h0 n0) := by
  refine own_inH (pq pn0) #[rv a1, iv (4:Int32)] (fun _ => by first | (simp [entryFrame, mkF, argsToLocals, Value.category]; done) | rfl) ?_
  intro p e s m below meth c s₁ Bd hx hby hml hown hnm hZ hh C0 e0 X0
  have N0 := Fr.nil n0
  obtain ⟨_, h10, X10, e10, E10, A10, D10, -, st10⟩ := newO X0 hx hZ hown (ow hw 130 rfl) (ow hw 10 rfl) (ow hw 9 rfl) e0 (g := (mkF m 86 #[rv a1, iv (4:Int32)] [])) rfl (hb hby d2_86) (by decide) (by decide)
  obtain ⟨b10, g10⟩ : ∃ z, z = h0.size := ⟨_, rfl⟩
  rw [← g10] at A10 D10 st10
  have O_E10 : Old Z n0 h10 := O0.ext E10
  have Kp_E10 : Keep h0 h10 [] := (Keep.refl h0 []).ext E10
  have c_E10 := CHr.ext E10 C0.1
  have C_E10 := C0.trans c_E10
  obtain ⟨_, h11, k11, X11, e11, E11, A11, C11, st11⟩ := newPE X10 hx hZ (aty := .char) (ow hw 0 rfl) e10 (g := (mkF m 91 #[rv a1, iv (4:Int32)] [(.int (4:Int32)), (.ref b10), (.ref b10)])) rfl (hb hby d2_91) rfl (by decide) (cap := 4) (by decide) (by decide) (by decide) (by decide) (ad := "[C") (by decide)
  obtain ⟨b11, g11⟩ : ∃ z, z = h10.size := ⟨_, rfl⟩
  rw [← g11] at A11 C11 st11
  have O_E11 : Old Z n0 h11 := O_E10.ext E11
  have Kp_E11 : Keep h0 h11 [] := Kp_E10.ext E11
  have c_E11 := CHr.ext E11 C_E10.1
  have C_E11 := C_E10.trans c_E11
  have V11 : Arv Z h11 b11 k11 .char (4:Int32) [(.int (0:Int32)), (.int (0:Int32)), (.int (0:Int32)), (.int (0:Int32))] (.int (0:Int32)) := (Arv.new A11 (by decide)).pad (pad_rep [] (.int (0:Int32)) 4)
  have f13 := ((H9.ext E10).ext E11)
  obtain ⟨cl12, Ar12, _, S12, _, H12, _⟩ := id f13
  have hin12 : ¬ ((0:Int32) < 0 ∨ cl12.slots.size ≤ ((0:Int32)).toNatClampNeg) := inb_of S12 ⟨by decide, by decide⟩
  obtain ⟨cl14, Ar14, q14, S14, M14, H14, G14⟩ := id V11
  have hin14 : ¬ ((0:Int32) < 0 ∨ cl14.slots.size ≤ ((0:Int32)).toNatClampNeg) := inb_of S14 ⟨by decide, by decide⟩
  obtain ⟨T14, h14, X14, e14, W14, st14⟩ := stC X11 hx hZ e11 Ar14 (j := (0:Int32)) hin14 (g := (mkF m 98 #[rv a1, iv (4:Int32)] [(.int p3), (.int (0:Int32)), (.ref b11), (.ref b11), (.ref b10), (.ref b10)])) rfl rfl (hb hby d2_98)
  have g16 : n0 ≤ b11 := Nat.le_trans (Nat.le_trans (Nat.le_of_eq O_E10.1.symm) O_E10.2.1) (Nat.le_of_eq g11.symm)
  have z17 : h0.size ≤ b11 := Nat.le_trans Kp_E10.1 (Nat.le_of_eq g11.symm)
  have O_W14 : Old Z n0 h14 := O_E11.wr W14 g16
  have Kp_W14 : Keep h0 h14 [] := Kp_E11.wr W14 (Or.inr z17)
  have c_W14 := CHr.wr W14 (Safe.ext E11 C_E10.1 (Safe.new (Nat.le_of_eq g11.symm))) C_E11.1
  have C_W14 := C_E11.trans c_W14
  have N18 := Fr.snoc X14 N0 g16
  have f15 : Arv Z h14 b11 k11 .char (4:Int32) [(.int (nar .char p3)), (.int (0:Int32)), (.int (0:Int32)), (.int (0:Int32))] (.int (0:Int32)) := Arv.set Ar14 q14 S14 M14 H14 G14 (fits_nar_char _) W14 0 rfl (Nat.le_of_ble_eq_true rfl)
  have ne22 : a1 ≠ b11 := Nat.ne_of_lt (Nat.lt_of_lt_of_le (H20.ext E10).lt (Nat.le_of_eq g11.symm))
  have f23 := (f13.other W14 ne22)
  obtain ⟨cl19, Ar19, _, S19, _, H19, _⟩ := id f23
  have hin19 : ¬ ((1:Int32) < 0 ∨ cl19.slots.size ≤ ((1:Int32)).toNatClampNeg) := inb_of S19 ⟨by decide, by decide⟩
  obtain ⟨cl24, Ar24, q24, S24, M24, H24, G24⟩ := id f15
  have hin24 : ¬ ((1:Int32) < 0 ∨ cl24.slots.size ≤ ((1:Int32)).toNatClampNeg) := inb_of S24 ⟨by decide, by decide⟩
  obtain ⟨_, h24, X24, e24, W24, st24⟩ := stC X14 hx hZ e14 Ar24 (j := (1:Int32)) hin24 (g := (mkF m 104 #[rv a1, iv (4:Int32)] [(.int p4), (.int (1:Int32)), (.ref b11), (.ref b11), (.ref b10), (.ref b10)])) rfl rfl (hb hby d2_104)
  have sf26 := (c_W14.safe C11.lt (Safe.ext E11 C_E10.1 (Safe.new (Nat.le_of_eq g11.symm))))
  have O_W24 : Old Z n0 h24 := O_W14.wr W24 g16
  have Kp_W24 : Keep h0 h24 [] := Kp_W14.wr W24 (Or.inr z17)
  have c_W24 := CHr.wr W24 sf26 C_W14.1
  have C_W24 := C_W14.trans c_W24
  have N27 := Fr.snoc X24 N18 g16
  have f25 : Arv Z h24 b11 k11 .char (4:Int32) [(.int (nar .char p3)), (.int (nar .char p4)), (.int (0:Int32)), (.int (0:Int32))] (.int (0:Int32)) := Arv.set Ar24 q24 S24 M24 H24 G24 (fits_nar_char _) W24 1 rfl (Nat.le_of_ble_eq_true rfl)
  have f29 := (f23.other W24 ne22)
  obtain ⟨cl28, Ar28, _, S28, _, H28, _⟩ := id f29
  have hin28 : ¬ ((2:Int32) < 0 ∨ cl28.slots.size ≤ ((2:Int32)).toNatClampNeg) := inb_of S28 ⟨by decide, by decide⟩
  obtain ⟨cl30, Ar30, q30, S30, M30, H30, G30⟩ := id f25
  have hin30 : ¬ ((2:Int32) < 0 ∨ cl30.slots.size ≤ ((2:Int32)).toNatClampNeg) := inb_of S30 ⟨by decide, by decide⟩
  obtain ⟨_, h30, X30, e30, W30, st30⟩ := stC X24 hx hZ e24 Ar30 (j := (2:Int32)) hin30 (g := (mkF m 110 #[rv a1, iv (4:Int32)] [(.int p5), (.int (2:Int32)), (.ref b11), (.ref b11), (.ref b10), (.ref b10)])) rfl rfl (hb hby d2_110)
  have sf32 := (c_W24.safe (C11.wr W14).lt sf26)
  have O_W30 : Old Z n0 h30 := O_W24.wr W30 g16
  have Kp_W30 : Keep h0 h30 [] := Kp_W24.wr W30 (Or.inr z17)
  have c_W30 := CHr.wr W30 sf32 C_W24.1
  have C_W30 := C_W24.trans c_W30
  have N33 := Fr.snoc X30 N27 g16
  have f31 : Arv Z h30 b11 k11 .char (4:Int32) [(.int (nar .char p3)), (.int (nar .char p4)), (.int (nar .char p5)), (.int (0:Int32))] (.int (0:Int32)) := Arv.set Ar30 q30 S30 M30 H30 G30 (fits_nar_char _) W30 2 rfl (Nat.le_of_ble_eq_true rfl)
  have f35 := (f29.other W30 ne22)
  obtain ⟨cl34, Ar34, _, S34, _, H34, _⟩ := id f35
  have hin34 : ¬ ((3:Int32) < 0 ∨ cl34.slots.size ≤ ((3:Int32)).toNatClampNeg) := inb_of S34 ⟨by decide, by decide⟩
  obtain ⟨cl36, Ar36, q36, S36, M36, H36, G36⟩ := id f31
  have hin36 : ¬ ((3:Int32) < 0 ∨ cl36.slots.size ≤ ((3:Int32)).toNatClampNeg) := inb_of S36 ⟨by decide, by decide⟩
  obtain ⟨_, h36, X36, e36, W36, st36⟩ := stC X30 hx hZ e30 Ar36 (j := (3:Int32)) hin36 (g := (mkF m 116 #[rv a1, iv (4:Int32)] [(.int p6), (.int (3:Int32)), (.ref b11), (.ref b11), (.ref b10), (.ref b10)])) rfl rfl (hb hby d2_116)
  have sf38 := (c_W30.safe ((C11.wr W14).wr W24).lt sf32)
  have O_W36 : Old Z n0 h36 := O_W30.wr W36 g16
  have Kp_W36 : Keep h0 h36 [] := Kp_W30.wr W36 (Or.inr z17)
  have c_W36 := CHr.wr W36 sf38 C_W30.1
  have C_W36 := C_W30.trans c_W36
  have N39 := Fr.snoc X36 N33 g16
  have f37 : Arv Z h36 b11 k11 .char (4:Int32) [(.int (nar .char p3)), (.int (nar .char p4)), (.int (nar .char p5)), (.int (nar .char p6))] (.int (0:Int32)) := Arv.set Ar36 q36 S36 M36 H36 G36 (fits_nar_char _) W36 3 rfl (Nat.le_of_ble_eq_true rfl)
  have f40 := (((((A10.ext E11).wr W14).wr W24).wr W30).wr W36)
  have f41 : xF3 Z h10 b10 .null := D10 (Or.inr (ow hw 12 rfl)) (ty := (.array .byte)) (by decide)
  have ne42 : b10 ≠ b11 := Nat.ne_of_lt (Nat.lt_of_lt_of_le A10.lt (Nat.le_of_eq g11.symm))
  have f43 := (((((f41.ext E11).other W14 (Or.inl ne42)).other W24 (Or.inl ne42)).other W30 (Or.inl ne42)).other W36 (Or.inl ne42))
  have f44 : xF2 Z h10 b10 (.int (0:Int32)) := D10 (Or.inr (ow hw 13 rfl)) (ty := .byte) (by decide)
  have f45 := (((((f44.ext E11).other W14 (Or.inl ne42)).other W24 (Or.inl ne42)).other W30 (Or.inl ne42)).other W36 (Or.inl ne42))
  have g53 : n0 ≤ b10 := Nat.le_trans (Nat.le_trans (Nat.le_of_eq O0.1.symm) O0.2.1) (Nat.le_of_eq g10.symm)
  obtain ⟨T54, _, _, X54, hQ54, st54⟩ := fl X36 (X36.specialBack hx (y := y28) rfl hown (mo hZ hw 131 rfl) (mo hZ hw 132 rfl) (mo hZ hw 133 rfl) (by decide) (own_newB (W := 1) (cs := [(nar .char p3), (nar .char p4), (nar .char p5), (nar .char p6)]) (nn := 4) rfl (Nat.le_trans (Nat.le_of_eq O_W36.1.symm) O_W36.2.1) g53 hZ hw (ow hw 10 rfl) f40 f43 f45 f37 (H47.ext O_W36.2) hc48 rfl (Nat.le_of_ble_eq_true rfl) (Nat.le_of_ble_eq_true rfl) (own_allS hc52 (own_allS hc51 (own_allS hc50 (own_allS hc49 own_all0)))) (by decide) (by decide)) (g := (mkF m 117 #[rv a1, iv (4:Int32)] [(.ref b11), (.ref b10), (.ref b10)])) rfl (by rw [hml]; rfl) (Steps.refl _) (a := b10) (argsL := [(.ref b11)]) (rest := [(.ref b10)]) (lenOf pd17 rfl) rfl wf (hb hby d2_117) (fun _ _ => ⟨rfl, e36, (by decide : 2 + 1 ≤ _), (by decide : 8 + 4 ≤ _)⟩))
  obtain ⟨b54_0, k54_0, rfl, N54q, K54, _, f54_2, f54_3, f54_4, f54_5⟩ := hQ54
  have N54 := Fr.app N39 N54q
  have sf55 := (c_W36.safe ((((A10.ext E11).wr W14).wr W24).wr W30).lt (c_W30.safe (((A10.ext E11).wr W14).wr W24).lt (c_W24.safe ((A10.ext E11).wr W14).lt (c_W14.safe (A10.ext E11).lt (c_E11.safe A10.lt (Safe.ext E10 C0.1 (Safe.new (Nat.le_of_eq g10.symm))))))))
  have z56 : h0.size ≤ b10 := Nat.le_trans (Keep.refl h0 []).1 (Nat.le_of_eq g10.symm)
  have Kp_K54 : Keep h0 T54.heap [] := Kp_W36.trans K54 (allS (Or.inr z56) all0)
  have c_K54 := CHr.keep K54 (allS sf55 all0) C_W36.1
  have C_K54 := C_W36.trans c_K54
  refine finH (Q := r2_5Q Z a1 k2 p3 p4 p5 p6 p7 p8 p46 h0 n0) (rm := (rM 4 3 12 66)) (vm := s.vm) Bd X54 hZ (own_EW hw) C_K54 hh rfl (State.WarmedH.since (State.WarmedH.refl s) 0) (Nat.zero_le _) (some (.ref b10)) nofun ⟨b10, b54_0, k54_0, rfl, N54, Kp_K54, f54_2, f54_3, f54_4, (own_cast rfl (by rw [H57, H58, H59, H60]) f54_5)⟩ (by decide) (by decide) fun fs hr => ?_
  show St p e below s₁ m 0 #[rv a1, iv (4:Int32)] [] _
  refine iN X0 hx hby d2_0 rfl ?_
  refine XS.ifYes X0.here hx rfl (pc0 := 1) (pc' := 7) rfl (hb hby d2_1) rfl ((if0 _ _).trans (feq (by decide : ¬ ((4:Int32) = (0:Int32)))).2) (by decide) (by decide) ?_
  refine iN X0 hx hby d2_7 rfl ?_
  refine iC X0 hx hby d2_8 ?_
  refine XS.icmpYes X0.here hx rfl (pc0 := 9) (pc' := 19) rfl (hb hby d2_9) rfl (feq (by decide : ¬ ((4:Int32) = (1:Int32)))).2 (by decide) (by decide) ?_
  refine iN X0 hx hby d2_19 rfl ?_
  refine iC X0 hx hby d2_20 ?_
  refine XS.icmpYes X0.here hx rfl (pc0 := 21) (pc' := 47) rfl (hb hby d2_21) rfl (feq (by decide : ¬ ((4:Int32) = (2:Int32)))).2 (by decide) (by decide) ?_
  refine iN X0 hx hby d2_47 rfl ?_
  refine iC X0 hx hby d2_48 ?_
  refine XS.icmpYes X0.here hx rfl (pc0 := 49) (pc' := 81) rfl (hb hby d2_49) rfl (feq (by decide : ¬ ((4:Int32) = (3:Int32)))).2 (by decide) (by decide) ?_
  refine iN X0 hx hby d2_81 rfl ?_
  refine iC X0 hx hby d2_82 ?_
  refine XS.icmpNo X0.here hx rfl (hb hby d2_83) rfl (teq (rfl : (4:Int32) = (4:Int32))).2 ?_
  refine st10 _ ?_
  refine XS.dup X10.here hx rfl (hb hby d2_89) rfl rfl ?_
  refine iC X10 hx hby d2_90 ?_
  refine st11 _ ?_
  refine XS.dup X11.here hx rfl (hb hby d2_93) rfl rfl ?_
  refine iC X11 hx hby d2_94 ?_
  refine aN X11 hx hby d2_95 rfl rfl ?_
  refine iC X11 hx hby d2_96 ?_
  refine X11.caload hx (j := (0:Int32)) (v := (.int p3)) (by rw [e11]; exact Ar12.1) (State.isArrayOf_alike hZ.alike Ar12.2.1) Ar12.2.2 hin12 (Has.at H12 hin12 rfl) (g := (mkF m 97 #[rv a1, iv (4:Int32)] [(.int (0:Int32)), (.ref a1), (.int (0:Int32)), (.ref b11), (.ref b11), (.ref b10), (.ref b10)])) rfl rfl (hb hby d2_97) _ ?_
  refine st14 _ ?_
  refine XS.dup X14.here hx rfl (hb hby d2_99) rfl rfl ?_
  show St p e below T14 m 100 #[rv a1, iv (4:Int32)] [(.ref b11), (.ref b11), (.ref b10), (.ref b10)] _
  refine iC X14 hx hby d2_100 ?_
  refine aN X14 hx hby d2_101 rfl rfl ?_
  refine iC X14 hx hby d2_102 ?_
  refine X14.caload hx (j := (1:Int32)) (v := (.int p4)) (by rw [e14]; exact Ar19.1) (State.isArrayOf_alike hZ.alike Ar19.2.1) Ar19.2.2 hin19 (Has.at H19 hin19 rfl) (g := (mkF m 103 #[rv a1, iv (4:Int32)] [(.int (1:Int32)), (.ref a1), (.int (1:Int32)), (.ref b11), (.ref b11), (.ref b10), (.ref b10)])) rfl rfl (hb hby d2_103) _ ?_
  refine st24 _ ?_
  refine XS.dup X24.here hx rfl (hb hby d2_105) rfl rfl ?_
  refine iC X24 hx hby d2_106 ?_
  refine aN X24 hx hby d2_107 rfl rfl ?_
  refine iC X24 hx hby d2_108 ?_
  refine X24.caload hx (j := (2:Int32)) (v := (.int p5)) (by rw [e24]; exact Ar28.1) (State.isArrayOf_alike hZ.alike Ar28.2.1) Ar28.2.2 hin28 (Has.at H28 hin28 rfl) (g := (mkF m 109 #[rv a1, iv (4:Int32)] [(.int (2:Int32)), (.ref a1), (.int (2:Int32)), (.ref b11), (.ref b11), (.ref b10), (.ref b10)])) rfl rfl (hb hby d2_109) _ ?_
  refine st30 _ ?_
  refine XS.dup X30.here hx rfl (hb hby d2_111) rfl rfl ?_
  refine iC X30 hx hby d2_112 ?_
  refine aN X30 hx hby d2_113 rfl rfl ?_
  refine iC X30 hx hby d2_114 ?_
  refine X30.caload hx (j := (3:Int32)) (v := (.int p6)) (by rw [e30]; exact Ar34.1) (State.isArrayOf_alike hZ.alike Ar34.2.1) Ar34.2.2 hin34 (Has.at H34 hin34 rfl) (g := (mkF m 115 #[rv a1, iv (4:Int32)] [(.int (3:Int32)), (.ref a1), (.int (3:Int32)), (.ref b11), (.ref b11), (.ref b10), (.ref b10)])) rfl rfl (hb hby d2_115) _ ?_
  refine st36 _ ?_
  refine st54.trans ?_
  exact retA X54 hx Bd.returns rfl rfl (hb hby d2_120) hr
theorem law_5 (l : Launch) (Z : State) (a0 : Array Value) (hw : HW a0 Z) (ws : List Jvm.Cond) (zCOMPACT_STRINGS:Int32) (vF : Value) (B : Base Z zCOMPACT_STRINGS vF) (i0:Int32) (i1 : Int64) (h0 : Heap) (n0 : Nat) (O0 : Old Z n0 h0) (pin0 : (((i0.toUInt32 >>> ((6:Int32) &&& 31).toUInt32).toInt32) % (7:Int32)) = (4:Int32)) (hc20 : own_ok (own_sp [(own_pk i0 i1 (0:Int32)), (own_pk i0 i1 (1:Int32)), (own_pk i0 i1 (2:Int32)), (own_pk i0 i1 (3:Int32))]) (0:Int32) (0:Int32) (own_pk i0 i1 (0:Int32))) (hc27 : own_ok (own_sp [(own_pk i0 i1 (0:Int32)), (own_pk i0 i1 (1:Int32)), (own_pk i0 i1 (2:Int32)), (own_pk i0 i1 (3:Int32))]) (own_nf (0:Int32) (own_pk i0 i1 (0:Int32))) (own_no (0:Int32) (own_pk i0 i1 (0:Int32))) (own_pk i0 i1 (1:Int32))) (hc34 : own_ok (own_sp [(own_pk i0 i1 (0:Int32)), (own_pk i0 i1 (1:Int32)), (own_pk i0 i1 (2:Int32)), (own_pk i0 i1 (3:Int32))]) (own_nf (own_nf (0:Int32) (own_pk i0 i1 (0:Int32))) (own_pk i0 i1 (1:Int32))) (own_no (own_no (0:Int32) (own_pk i0 i1 (0:Int32))) (own_pk i0 i1 (1:Int32))) (own_pk i0 i1 (2:Int32))) (hc41 : own_ok (own_sp [(own_pk i0 i1 (0:Int32)), (own_pk i0 i1 (1:Int32)), (own_pk i0 i1 (2:Int32)), (own_pk i0 i1 (3:Int32))]) (own_nf (own_nf (own_nf (0:Int32) (own_pk i0 i1 (0:Int32))) (own_pk i0 i1 (1:Int32))) (own_pk i0 i1 (2:Int32))) (own_no (own_no (own_no (0:Int32) (own_pk i0 i1 (0:Int32))) (own_pk i0 i1 (1:Int32))) (own_pk i0 i1 (2:Int32))) (own_pk i0 i1 (3:Int32))) (hc48 : (own_nf (own_nf (own_nf (own_nf (0:Int32) (own_pk i0 i1 (0:Int32))) (own_pk i0 i1 (1:Int32))) (own_pk i0 i1 (2:Int32))) (own_pk i0 i1 (3:Int32))) = ((own_n2 (own_sp [(own_pk i0 i1 (0:Int32)), (own_pk i0 i1 (1:Int32)), (own_pk i0 i1 (2:Int32)), (own_pk i0 i1 (3:Int32))])) - (1:Int32))) (hc50 : own_inb (own_sp [(own_pk i0 i1 (0:Int32)), (own_pk i0 i1 (1:Int32)), (own_pk i0 i1 (2:Int32)), (own_pk i0 i1 (3:Int32))]) (own_nf (own_nf (own_nf (own_nf (0:Int32) (own_pk i0 i1 (0:Int32))) (own_pk i0 i1 (1:Int32))) (own_pk i0 i1 (2:Int32))) (own_pk i0 i1 (3:Int32)))) (hc54 : (own_tn (own_nth (own_sp [(own_pk i0 i1 (0:Int32)), (own_pk i0 i1 (1:Int32)), (own_pk i0 i1 (2:Int32)), (own_pk i0 i1 (3:Int32))]) (own_nf (own_nf (own_nf (own_nf (0:Int32) (own_pk i0 i1 (0:Int32))) (own_pk i0 i1 (1:Int32))) (own_pk i0 i1 (2:Int32))) (own_pk i0 i1 (3:Int32))))) = (own_no (own_no (own_no (own_no (0:Int32) (own_pk i0 i1 (0:Int32))) (own_pk i0 i1 (1:Int32))) (own_pk i0 i1 (2:Int32))) (own_pk i0 i1 (3:Int32)))) :
    MFH l x code maxLocals ret ws room_1 Z #[(.int i0), (.long i1)] h0 (lawQ n0) := by
  refine own_inH (pq pn0) #[iv i0, .val (.long i1), .second, un, un, un, un, un, un] (fun _ => by first | (simp [entryFrame, mkF, argsToLocals, Value.category, maxLocals]; done) | rfl) ?_
  intro p e s m below meth c s₁ Bd hx hby hml hown hnm hZ hh C0 e0 X0
  have N0 := Fr.nil n0
  obtain ⟨B0, B1, B2, B3⟩ := B
  obtain ⟨_, h1, _, b1_0, k1_0, X1, e1, N1, K1, _, f1_2, f1_3, st1⟩ := g1_1 i0 i1 (4:Int32) ⟨X0, hx, hZ, hw, hby, hml, hown, e0, O0, N0, by decide, by decide, by decide, by decide⟩
  have O_K1 : Old Z n0 h1 := O0.keep K1 all0
  have c_K1 := CHr.keep K1 all0 C0.1
  have C_K1 := C0.trans c_K1
  obtain ⟨T3, _, _, X3, hSq3, hg3, Cq3, hQ3, st3⟩ := flH X1 (Jvm.RoadKit.callSS X1 hx (y := y2) hown (mo hZ hw 5 rfl) (mo hZ hw 6 rfl) (mo hZ hw 3 rfl) (mo hZ hw 7 rfl) (by decide) (backOfSH (s := s) (vm0 := s.vm) (W := 0) (r2_5 l Z a0 hw [] b1_0 k1_0 (own_pk i0 i1 (0:Int32)) (own_pk i0 i1 (1:Int32)) (own_pk i0 i1 (2:Int32)) (own_pk i0 i1 (3:Int32)) (own_pk i0 i1 (4:Int32)) (own_pk i0 i1 (5:Int32)) zCOMPACT_STRINGS h1 n0 O_K1 f1_2 f1_3 B0 B1 (⟨own_pkb0 _ _ _, own_pkbb _ _ _⟩) (⟨own_pkb0 _ _ _, own_pkbb _ _ _⟩) (⟨own_pkb0 _ _ _, own_pkbb _ _ _⟩) (⟨own_pkb0 _ _ _, own_pkbb _ _ _⟩) (own_pkn _ _ _) (own_pkn _ _ _) (own_pkn _ _ _) (own_pkn _ _ _)) hZ (ow hw 7 rfl) (ow hw 3 rfl) (by decide) (by decide) (own_EW hw) C_K1.1) (g := (mkF m 77 #[iv i0, .val (.long i1), .second, iv (4:Int32), rv b1_0, un, un, un, un] [(.int (4:Int32)), (.ref b1_0)])) rfl (by rw [hml]; rfl) (argsL := [(.ref b1_0), (.int (4:Int32))]) (rest := []) (lenOf pd4 rfl) rfl wf (hb hby at_77) (fun _ _ => ⟨rfl, e1, (by decide : 1 + 3 ≤ _), (by decide : 6 + 12 ≤ _)⟩))
  obtain ⟨Y3, hS3, hZ3, hown3⟩ := rebS (s := s) (vm0 := s.vm) (State.WarmedH.since (State.WarmedH.refl s) 0) (by rw [e1]; exact (Nat.zero_le _)) X3 hSq3 hg3 hZ hown
  obtain ⟨b3_0, b3_1, k3_0, rfl, N3q, K3, f3_1, f3_2, f3_3, f3_4⟩ := hQ3
  have N3 := Fr.app N1 N3q
  have O_K3 : Old Z n0 T3.heap := O_K1.keep K3 all0
  have c_K3 := Cq3
  have C_K3 := C_K1.trans c_K3
  have f4 := (f1_3.keep K3)
  have f6 := (f1_2.keep K3 nin0)
  obtain ⟨T8, _, _, X8, hSq8, hg8, Cq8, hQ8, st8⟩ := flH Y3 (Jvm.RoadKit.callSS Y3 hx (y := y3) hown3 (mo hZ3 hw 16 rfl) (mo hZ3 hw 17 rfl) (mo hZ3 hw 18 rfl) (mo hZ3 hw 19 rfl) (by decide) (backOfSH (s := s) (vm0 := T3.vm) (W := 0) (own_fields l Z a0 hw [] b3_0 b3_1 k3_0 ([(own_pk i0 i1 (0:Int32)), (own_pk i0 i1 (1:Int32)), (own_pk i0 i1 (2:Int32)), (own_pk i0 i1 (3:Int32))]) zCOMPACT_STRINGS vF T3.heap n0 O_K3 f3_1 f3_3 f3_2 f3_4 B0 B1 (⟨Nat.le_of_ble_eq_true rfl, (own_allS (own_pkb _ _ _) (own_allS (own_pkb _ _ _) (own_allS (own_pkb _ _ _) (own_allS (own_pkb _ _ _) own_all0))))⟩) B2 B3) hZ3 (ow hw 19 rfl) (ow hw 18 rfl) (by decide) (by decide) (own_EW hw) C_K3.1) (g := (mkF m 84 #[iv i0, .val (.long i1), .second, iv (4:Int32), rv b1_0, rv b3_0, un, un, un] [(.ref b3_0)])) rfl (by rw [hml]; rfl) (argsL := [(.ref b3_0)]) (rest := []) (lenOf pd0 rfl) rfl wf (hb hby at_84) (fun _ _ => ⟨rfl, rfl, (by decide : 4 + 15 ≤ _), (by decide : 18 + 77 ≤ _)⟩))
  obtain ⟨Y8, hS8, hZ8, hown8⟩ := rebS (s := s) (vm0 := T3.vm) hS3 (Nat.le_refl _) X8 hSq8 hg8 hZ3 hown3
  obtain ⟨b8_0, rfl, N8q, K8, _, f8_2⟩ := hQ8
  have N8 := Fr.app N3 N8q
  have O_K8 : Old Z n0 T8.heap := O_K3.keep K8 all0
  have c_K8 := Cq8
  have C_K8 := C_K3.trans c_K8
  obtain ⟨_, h9, k9, X9, e9, E9, A9, C9, st9⟩ := newPE Y8 hx hZ8 (aty := .int) (ow hw 86 rfl) rfl (g := (mkF m 97 #[iv i0, .val (.long i1), .second, iv (4:Int32), rv b1_0, rv b3_0, rv b8_0, un, un] [(.int (3:Int32))])) rfl (hb hby at_97) rfl (by decide) (cap := 3) (by decide) (by decide) (by decide) (by decide) (ad := "[I") (by decide)
  obtain ⟨b9, g9⟩ : ∃ z, z = T8.heap.size := ⟨_, rfl⟩
  rw [← g9] at A9 C9 st9
  have O_E9 : Old Z n0 h9 := O_K8.ext E9
  have c_E9 := CHr.ext E9 C_K8.1
  have C_E9 := C_K8.trans c_E9
  have V9 : Arv Z h9 b9 k9 .int (3:Int32) [(.int (0:Int32)), (.int (0:Int32)), (.int (0:Int32))] (.int (0:Int32)) := (Arv.new A9 (by decide)).pad (pad_rep [] (.int (0:Int32)) 3)
  obtain ⟨cl10, Ar10, q10, S10, M10, H10, G10⟩ := id V9
  have hin10 : ¬ ((2:Int32) < 0 ∨ cl10.slots.size ≤ ((2:Int32)).toNatClampNeg) := inb_of S10 ⟨by decide, by decide⟩
  obtain ⟨T10, h10, X10, e10, W10, st10⟩ := stI X9 hx hZ8 e9 Ar10 (j := (2:Int32)) hin10 (g := (mkF m 105 #[iv i0, .val (.long i1), .second, iv (4:Int32), rv b1_0, rv b3_0, rv b8_0, rv b9, un] [(.int (1:Int32)), (.int (2:Int32)), (.ref b9)])) rfl rfl (hb hby at_105)
  have g12 : n0 ≤ b9 := Nat.le_trans (Nat.le_trans (Nat.le_of_eq O_K8.1.symm) O_K8.2.1) (Nat.le_of_eq g9.symm)
  have O_W10 : Old Z n0 h10 := O_E9.wr W10 g12
  have c_W10 := CHr.wr W10 (Safe.ext E9 C_K8.1 (Safe.new (Nat.le_of_eq g9.symm))) C_E9.1
  have C_W10 := C_E9.trans c_W10
  have N14 := Fr.snoc X10 N8 g12
  have f11 : Arv Z h10 b9 k9 .int (3:Int32) [(.int (0:Int32)), (.int (0:Int32)), (.int (1:Int32))] (.int (0:Int32)) := Arv.set Ar10 q10 S10 M10 H10 G10 rfl W10 2 rfl (Nat.le_of_ble_eq_true rfl)
  have ne16 : b1_0 ≠ b9 := Nat.ne_of_lt (Nat.lt_of_lt_of_le (f4.keep K8).lt (Nat.le_of_eq g9.symm))
  have f17 := (((f6.keep K8 nin0).ext E9).other W10 ne16)
  obtain ⟨cl15, Ar15, _, S15, _, H15, _⟩ := id f17
  have hin15 : ¬ ((0:Int32) < 0 ∨ cl15.slots.size ≤ ((0:Int32)).toNatClampNeg) := inb_of S15 ⟨by decide, by decide⟩
  have f18 := ((f8_2.ext E9).keep1 (ow hw 10 rfl) (Keep.of_wr W10) V9)
  have f19 := (C9.wr W10)
  obtain ⟨T21, _, _, X21, hQ21, st21⟩ := cS X10 hx hZ8 hw hown8 (y := y26) 107 rfl 108 rfl 3 rfl 109 rfl (by decide) (W := 0) (own_step l Z a0 hw [] b8_0 b9 k9 (own_sp [(own_pk i0 i1 (0:Int32)), (own_pk i0 i1 (1:Int32)), (own_pk i0 i1 (2:Int32)), (own_pk i0 i1 (3:Int32))]) (0:Int32) (0:Int32) (own_pk i0 i1 (0:Int32)) zCOMPACT_STRINGS vF h10 n0 O_W10 f11 f18 B0 B1 (own_gsp ⟨Nat.le_of_ble_eq_true rfl, (own_allS (own_pkb _ _ _) (own_allS (own_pkb _ _ _) (own_allS (own_pkb _ _ _) (own_allS (own_pkb _ _ _) own_all0))))⟩) g12 f19 B2 B3 hc20) (by decide) (by decide) e10 (g := (mkF m 118 #[iv i0, .val (.long i1), .second, iv (4:Int32), rv b1_0, rv b3_0, rv b8_0, rv b9, un] [(.int (own_pk i0 i1 (0:Int32))), (.ref b9), (.ref b8_0)])) rfl (by rw [hml]; rfl) (argsL := [(.ref b8_0), (.ref b9), (.int (own_pk i0 i1 (0:Int32)))]) (rest := []) (lenOf pd2 rfl) rfl wf (hb hby at_118) rfl (by decide) (by decide)
  obtain ⟨rfl, N21q, K21, f21_1⟩ := hQ21
  have N21 := Fr.app N14 N21q
  have sf22 := (c_W10.safe C9.lt (Safe.ext E9 C_K8.1 (Safe.new (Nat.le_of_eq g9.symm))))
  have O_K21 : Old Z n0 T21.heap := O_W10.keep K21 (allS g12 all0)
  have c_K21 := CHr.keep K21 (allS sf22 all0) C_W10.1
  have C_K21 := C_W10.trans c_K21
  have f24 := (f17.keep K21 (ninS ne16 nin0))
  obtain ⟨cl23, Ar23, _, S23, _, H23, _⟩ := id f24
  have hin23 : ¬ ((1:Int32) < 0 ∨ cl23.slots.size ≤ ((1:Int32)).toNatClampNeg) := inb_of S23 ⟨by decide, by decide⟩
  have f25 := (f18.keep1 (ow hw 10 rfl) K21 f11)
  have f26 := (f19.keep K21)
  obtain ⟨T28, _, _, X28, hQ28, st28⟩ := cS X21 hx hZ8 hw hown8 (y := y26) 107 rfl 108 rfl 3 rfl 109 rfl (by decide) (W := 0) (own_step l Z a0 hw [] b8_0 b9 k9 (own_sp [(own_pk i0 i1 (0:Int32)), (own_pk i0 i1 (1:Int32)), (own_pk i0 i1 (2:Int32)), (own_pk i0 i1 (3:Int32))]) (own_nf (0:Int32) (own_pk i0 i1 (0:Int32))) (own_no (0:Int32) (own_pk i0 i1 (0:Int32))) (own_pk i0 i1 (1:Int32)) zCOMPACT_STRINGS vF T21.heap n0 O_K21 f21_1 f25 B0 B1 (own_gsp ⟨Nat.le_of_ble_eq_true rfl, (own_allS (own_pkb _ _ _) (own_allS (own_pkb _ _ _) (own_allS (own_pkb _ _ _) (own_allS (own_pkb _ _ _) own_all0))))⟩) g12 f26 B2 B3 hc27) (by decide) (by decide) rfl (g := (mkF m 134 #[iv i0, .val (.long i1), .second, iv (4:Int32), rv b1_0, rv b3_0, rv b8_0, rv b9, un] [(.int (own_pk i0 i1 (1:Int32))), (.ref b9), (.ref b8_0)])) rfl (by rw [hml]; rfl) (argsL := [(.ref b8_0), (.ref b9), (.int (own_pk i0 i1 (1:Int32)))]) (rest := []) (lenOf pd2 rfl) rfl wf (hb hby at_134) rfl (by decide) (by decide)
  obtain ⟨rfl, N28q, K28, f28_1⟩ := hQ28
  have N28 := Fr.app N21 N28q
  have sf29 := (c_K21.safe (C9.wr W10).lt sf22)
  have O_K28 : Old Z n0 T28.heap := O_K21.keep K28 (allS g12 all0)
  have c_K28 := CHr.keep K28 (allS sf29 all0) C_K21.1
  have C_K28 := C_K21.trans c_K28
  have f31 := (f24.keep K28 (ninS ne16 nin0))
  obtain ⟨cl30, Ar30, _, S30, _, H30, _⟩ := id f31
  have hin30 : ¬ ((2:Int32) < 0 ∨ cl30.slots.size ≤ ((2:Int32)).toNatClampNeg) := inb_of S30 ⟨by decide, by decide⟩
  have f32 := (f25.keep1 (ow hw 10 rfl) K28 f21_1)
  have f33 := (f26.keep K28)
  obtain ⟨T35, _, _, X35, hQ35, st35⟩ := cS X28 hx hZ8 hw hown8 (y := y26) 107 rfl 108 rfl 3 rfl 109 rfl (by decide) (W := 0) (own_step l Z a0 hw [] b8_0 b9 k9 (own_sp [(own_pk i0 i1 (0:Int32)), (own_pk i0 i1 (1:Int32)), (own_pk i0 i1 (2:Int32)), (own_pk i0 i1 (3:Int32))]) (own_nf (own_nf (0:Int32) (own_pk i0 i1 (0:Int32))) (own_pk i0 i1 (1:Int32))) (own_no (own_no (0:Int32) (own_pk i0 i1 (0:Int32))) (own_pk i0 i1 (1:Int32))) (own_pk i0 i1 (2:Int32)) zCOMPACT_STRINGS vF T28.heap n0 O_K28 f28_1 f32 B0 B1 (own_gsp ⟨Nat.le_of_ble_eq_true rfl, (own_allS (own_pkb _ _ _) (own_allS (own_pkb _ _ _) (own_allS (own_pkb _ _ _) (own_allS (own_pkb _ _ _) own_all0))))⟩) g12 f33 B2 B3 hc34) (by decide) (by decide) rfl (g := (mkF m 150 #[iv i0, .val (.long i1), .second, iv (4:Int32), rv b1_0, rv b3_0, rv b8_0, rv b9, un] [(.int (own_pk i0 i1 (2:Int32))), (.ref b9), (.ref b8_0)])) rfl (by rw [hml]; rfl) (argsL := [(.ref b8_0), (.ref b9), (.int (own_pk i0 i1 (2:Int32)))]) (rest := []) (lenOf pd2 rfl) rfl wf (hb hby at_150) rfl (by decide) (by decide)
  obtain ⟨rfl, N35q, K35, f35_1⟩ := hQ35
  have N35 := Fr.app N28 N35q
  have sf36 := (c_K28.safe ((C9.wr W10).keep K21).lt sf29)
  have O_K35 : Old Z n0 T35.heap := O_K28.keep K35 (allS g12 all0)
  have c_K35 := CHr.keep K35 (allS sf36 all0) C_K28.1
  have C_K35 := C_K28.trans c_K35
  have f38 := (f31.keep K35 (ninS ne16 nin0))
  obtain ⟨cl37, Ar37, _, S37, _, H37, _⟩ := id f38
  have hin37 : ¬ ((3:Int32) < 0 ∨ cl37.slots.size ≤ ((3:Int32)).toNatClampNeg) := inb_of S37 ⟨by decide, by decide⟩
  have f39 := (f32.keep1 (ow hw 10 rfl) K35 f28_1)
  have f40 := (f33.keep K35)
  obtain ⟨T42, _, _, X42, hQ42, st42⟩ := cS X35 hx hZ8 hw hown8 (y := y26) 107 rfl 108 rfl 3 rfl 109 rfl (by decide) (W := 0) (own_step l Z a0 hw [] b8_0 b9 k9 (own_sp [(own_pk i0 i1 (0:Int32)), (own_pk i0 i1 (1:Int32)), (own_pk i0 i1 (2:Int32)), (own_pk i0 i1 (3:Int32))]) (own_nf (own_nf (own_nf (0:Int32) (own_pk i0 i1 (0:Int32))) (own_pk i0 i1 (1:Int32))) (own_pk i0 i1 (2:Int32))) (own_no (own_no (own_no (0:Int32) (own_pk i0 i1 (0:Int32))) (own_pk i0 i1 (1:Int32))) (own_pk i0 i1 (2:Int32))) (own_pk i0 i1 (3:Int32)) zCOMPACT_STRINGS vF T35.heap n0 O_K35 f35_1 f39 B0 B1 (own_gsp ⟨Nat.le_of_ble_eq_true rfl, (own_allS (own_pkb _ _ _) (own_allS (own_pkb _ _ _) (own_allS (own_pkb _ _ _) (own_allS (own_pkb _ _ _) own_all0))))⟩) g12 f40 B2 B3 hc41) (by decide) (by decide) rfl (g := (mkF m 166 #[iv i0, .val (.long i1), .second, iv (4:Int32), rv b1_0, rv b3_0, rv b8_0, rv b9, un] [(.int (own_pk i0 i1 (3:Int32))), (.ref b9), (.ref b8_0)])) rfl (by rw [hml]; rfl) (argsL := [(.ref b8_0), (.ref b9), (.int (own_pk i0 i1 (3:Int32)))]) (rest := []) (lenOf pd2 rfl) rfl wf (hb hby at_166) rfl (by decide) (by decide)
  obtain ⟨rfl, N42q, K42, f42_1⟩ := hQ42
  have N42 := Fr.app N35 N42q
  have sf43 := (c_K35.safe (((C9.wr W10).keep K21).keep K28).lt sf36)
  have O_K42 : Old Z n0 T42.heap := O_K35.keep K42 (allS g12 all0)
  have c_K42 := CHr.keep K42 (allS sf43 all0) C_K35.1
  have C_K42 := C_K35.trans c_K42
  obtain ⟨cl44, Ar44, _, S44, _, H44, _⟩ := id f42_1
  have hin44 : ¬ ((0:Int32) < 0 ∨ cl44.slots.size ≤ ((0:Int32)).toNatClampNeg) := inb_of S44 ⟨by decide, by decide⟩
  obtain ⟨cl45, Ar45, _, S45, _, H45, _⟩ := id f42_1
  have hin45 : ¬ ((2:Int32) < 0 ∨ cl45.slots.size ≤ ((2:Int32)).toNatClampNeg) := inb_of S45 ⟨by decide, by decide⟩
  have f47 := (f39.keep1 (ow hw 10 rfl) K42 f35_1)
  obtain ⟨_, Sx49, st49⟩ := own_rget X42 hx hZ8 f47 rfl hc50 (g := (mkF m 229 #[iv i0, .val (.long i1), .second, iv (4:Int32), rv b1_0, rv b3_0, rv b8_0, rv b9, iv (own_nf (own_nf (own_nf (own_nf (0:Int32) (own_pk i0 i1 (0:Int32))) (own_pk i0 i1 (1:Int32))) (own_pk i0 i1 (2:Int32))) (own_pk i0 i1 (3:Int32)))] [(.int (own_nf (own_nf (own_nf (own_nf (0:Int32) (own_pk i0 i1 (0:Int32))) (own_pk i0 i1 (1:Int32))) (own_pk i0 i1 (2:Int32))) (own_pk i0 i1 (3:Int32)))), (.ref b8_0)])) rfl rfl (hb hby at_229)
  obtain ⟨_, _, _, _, _, _⟩ := Sx49
  obtain ⟨a51, Sx51, st51⟩ := own_rget X42 hx hZ8 f47 rfl hc50 (g := (mkF m 237 #[iv i0, .val (.long i1), .second, iv (4:Int32), rv b1_0, rv b3_0, rv b8_0, rv b9, iv (own_nf (own_nf (own_nf (own_nf (0:Int32) (own_pk i0 i1 (0:Int32))) (own_pk i0 i1 (1:Int32))) (own_pk i0 i1 (2:Int32))) (own_pk i0 i1 (3:Int32)))] [(.int (own_nf (own_nf (own_nf (own_nf (0:Int32) (own_pk i0 i1 (0:Int32))) (own_pk i0 i1 (1:Int32))) (own_pk i0 i1 (2:Int32))) (own_pk i0 i1 (3:Int32)))), (.ref b8_0)])) rfl rfl (hb hby at_237)
  obtain ⟨_, _, Ea51, Fv51, Fc51, Av51⟩ := Sx51
  obtain ⟨_, _, q52a, _, q52c⟩ := isOf hZ8 rfl Ea51
  obtain ⟨_, _, _, X52, hQ52, st52⟩ := fl X42 (X42.virtualBack hx (y := y8) (z := y8) hown8 (mo hZ8 hw 87 rfl) (mo hZ8 hw 42 rfl) (notFace_of_selects (args := #[]) (mo hZ8 hw 44 rfl)) (mo hZ8 hw 44 rfl) (mo hZ8 hw 43 rfl) (by decide) (own_lenB (W := 0) n0 hZ8 hw (ow hw 10 rfl) Ea51 Fv51 Fc51 Av51 (own_gtn (own_gsp ⟨Nat.le_of_ble_eq_true rfl, (own_allS (own_pkb _ _ _) (own_allS (own_pkb _ _ _) (own_allS (own_pkb _ _ _) (own_allS (own_pkb _ _ _) own_all0))))⟩) _) (B0.ext O_K42.2) B1 (by decide) (by decide)) q52a q52c (g := (mkF m 238 #[iv i0, .val (.long i1), .second, iv (4:Int32), rv b1_0, rv b3_0, rv b8_0, rv b9, iv (own_nf (own_nf (own_nf (own_nf (0:Int32) (own_pk i0 i1 (0:Int32))) (own_pk i0 i1 (1:Int32))) (own_pk i0 i1 (2:Int32))) (own_pk i0 i1 (3:Int32)))] [(.ref a51)])) rfl (by rw [hml]; rfl) (Steps.refl _) (argsL := []) (rest := []) (lenOf pd23 rfl) rfl wf (hb hby at_238) (fun _ _ => ⟨rfl, rfl, (by decide : 20 + 0 ≤ _), (by decide : 98 + 0 ≤ _)⟩))
  obtain ⟨rfl, N52q, e52⟩ := hQ52
  have N52 := Fr.app N42 N52q
  obtain ⟨cl53, Ar53, _, S53, _, H53, _⟩ := id f42_1
  have hin53 : ¬ ((1:Int32) < 0 ∨ cl53.slots.size ≤ ((1:Int32)).toNatClampNeg) := inb_of S53 ⟨by decide, by decide⟩
  refine finH (Q := lawQ n0) (rm := room_1) (vm := T8.vm) Bd X52 hZ8 (own_EW hw) C_K42 hh e52 hS8 (Nat.le_trans (Nat.le_trans (Nat.le_trans (Nat.le_trans (Nat.le_trans (Nat.le_trans (Nat.le_refl _) E9.1) (Keep.of_wr W10).1) K21.1) K28.1) K35.1) K42.1) (some (.int (1:Int32))) nofun ⟨rfl, N52⟩ (by decide) (by decide) fun fs hr => ?_
  show St p e below s₁ m 0 #[iv i0, .val (.long i1), .second, un, un, un, un, un, un] [] _
  refine iN X0 hx hby at_0 rfl ?_
  refine XS.bipush X0.here hx rfl (hb hby at_1) ?_
  refine XS.iushr X0.here hx rfl (hb hby at_3) rfl ?_
  refine XS.bipush X0.here hx rfl (hb hby at_4) ?_
  refine Jvm.RoadKit.iremM (g := (mkF m 6 #[iv i0, .val (.long i1), .second, un, un, un, un, un, un] [(.int (7:Int32)), (.int ((i0.toUInt32 >>> ((6:Int32) &&& 31).toUInt32).toInt32))])) X0 hx rfl (hb hby at_6) rfl (by decide : ¬ ((7:Int32) = (0:Int32))) ?_
  show St p e below s₁ m 7 #[iv i0, .val (.long i1), .second, un, un, un, un, un, un] [(.int (((i0.toUInt32 >>> ((6:Int32) &&& 31).toUInt32).toInt32) % (7:Int32)))] _
  rw [pin0]
  refine XS.istoreN X0.here hx rfl (hb hby at_7) rfl (l' := #[iv i0, .val (.long i1), .second, iv (4:Int32), un, un, un, un, un]) rfl ?_
  refine st1 _ ?_
  refine aL X1 hx hby at_74 rfl rfl ?_
  refine iN X1 hx hby at_76 rfl ?_
  refine st3.trans ?_
  refine XS.astore Y3.here hx rfl (hb hby at_80) rfl rfl (l' := #[iv i0, .val (.long i1), .second, iv (4:Int32), rv b1_0, rv b3_0, un, un, un]) rfl ?_
  refine aL Y3 hx hby at_82 rfl rfl ?_
  refine st8.trans ?_
  refine XS.astore Y8.here hx rfl (hb hby at_87) rfl rfl (l' := #[iv i0, .val (.long i1), .second, iv (4:Int32), rv b1_0, rv b3_0, rv b8_0, un, un]) rfl ?_
  refine aL Y8 hx hby at_89 rfl rfl ?_
  refine XS.ifnonnullYes Y8.here hx rfl (pc0 := 91) (pc' := 96) rfl (hb hby at_91) rfl (by decide) (by decide) ?_
  refine iC Y8 hx hby at_96 ?_
  refine st9 _ ?_
  refine XS.astore X9.here hx rfl (hb hby at_99) rfl rfl (l' := #[iv i0, .val (.long i1), .second, iv (4:Int32), rv b1_0, rv b3_0, rv b8_0, rv b9, un]) rfl ?_
  refine aL X9 hx hby at_101 rfl rfl ?_
  refine iC X9 hx hby at_103 ?_
  refine iC X9 hx hby at_104 ?_
  refine st10 _ ?_
  refine iN X10 hx hby at_106 rfl ?_
  refine XS.ifNo X10.here hx rfl (hb hby at_107) rfl ((if0 _ _).trans (tlt (by decide : (0:Int32) < (4:Int32))).2.2.2) ?_
  show St p e below T10 m 110 #[iv i0, .val (.long i1), .second, iv (4:Int32), rv b1_0, rv b3_0, rv b8_0, rv b9, un] [] _
  refine aL X10 hx hby at_110 rfl rfl ?_
  refine aL X10 hx hby at_112 rfl rfl ?_
  refine aL X10 hx hby at_114 rfl rfl ?_
  refine iC X10 hx hby at_116 ?_
  refine X10.caload hx (j := (0:Int32)) (v := (.int (own_pk i0 i1 (0:Int32)))) (by rw [e10]; exact Ar15.1) (State.isArrayOf_alike hZ8.alike Ar15.2.1) Ar15.2.2 hin15 (Has.at H15 hin15 rfl) (g := (mkF m 117 #[iv i0, .val (.long i1), .second, iv (4:Int32), rv b1_0, rv b3_0, rv b8_0, rv b9, un] [(.int (0:Int32)), (.ref b1_0), (.ref b9), (.ref b8_0)])) rfl rfl (hb hby at_117) _ ?_
  refine st21 _ ?_
  refine iN X21 hx hby at_121 rfl ?_
  refine iC X21 hx hby at_122 ?_
  refine XS.icmpNo X21.here hx rfl (hb hby at_123) rfl (tlt (by decide : (1:Int32) < (4:Int32))).2.2.2 ?_
  refine aL X21 hx hby at_126 rfl rfl ?_
  refine aL X21 hx hby at_128 rfl rfl ?_
  refine aL X21 hx hby at_130 rfl rfl ?_
  refine iC X21 hx hby at_132 ?_
  refine X21.caload hx (j := (1:Int32)) (v := (.int (own_pk i0 i1 (1:Int32)))) Ar23.1 (State.isArrayOf_alike hZ8.alike Ar23.2.1) Ar23.2.2 hin23 (Has.at H23 hin23 rfl) (g := (mkF m 133 #[iv i0, .val (.long i1), .second, iv (4:Int32), rv b1_0, rv b3_0, rv b8_0, rv b9, un] [(.int (1:Int32)), (.ref b1_0), (.ref b9), (.ref b8_0)])) rfl rfl (hb hby at_133) _ ?_
  refine st28 _ ?_
  refine iN X28 hx hby at_137 rfl ?_
  refine iC X28 hx hby at_138 ?_
  refine XS.icmpNo X28.here hx rfl (hb hby at_139) rfl (tlt (by decide : (2:Int32) < (4:Int32))).2.2.2 ?_
  refine aL X28 hx hby at_142 rfl rfl ?_
  refine aL X28 hx hby at_144 rfl rfl ?_
  refine aL X28 hx hby at_146 rfl rfl ?_
  refine iC X28 hx hby at_148 ?_
  refine X28.caload hx (j := (2:Int32)) (v := (.int (own_pk i0 i1 (2:Int32)))) Ar30.1 (State.isArrayOf_alike hZ8.alike Ar30.2.1) Ar30.2.2 hin30 (Has.at H30 hin30 rfl) (g := (mkF m 149 #[iv i0, .val (.long i1), .second, iv (4:Int32), rv b1_0, rv b3_0, rv b8_0, rv b9, un] [(.int (2:Int32)), (.ref b1_0), (.ref b9), (.ref b8_0)])) rfl rfl (hb hby at_149) _ ?_
  refine st35 _ ?_
  refine iN X35 hx hby at_153 rfl ?_
  show St p e below T35 m 154 #[iv i0, .val (.long i1), .second, iv (4:Int32), rv b1_0, rv b3_0, rv b8_0, rv b9, un] [(.int (4:Int32))] _
  refine iC X35 hx hby at_154 ?_
  refine XS.icmpNo X35.here hx rfl (hb hby at_155) rfl (tlt (by decide : (3:Int32) < (4:Int32))).2.2.2 ?_
  refine aL X35 hx hby at_158 rfl rfl ?_
  refine aL X35 hx hby at_160 rfl rfl ?_
  refine aL X35 hx hby at_162 rfl rfl ?_
  refine iC X35 hx hby at_164 ?_
  refine X35.caload hx (j := (3:Int32)) (v := (.int (own_pk i0 i1 (3:Int32)))) Ar37.1 (State.isArrayOf_alike hZ8.alike Ar37.2.1) Ar37.2.2 hin37 (Has.at H37 hin37 rfl) (g := (mkF m 165 #[iv i0, .val (.long i1), .second, iv (4:Int32), rv b1_0, rv b3_0, rv b8_0, rv b9, un] [(.int (3:Int32)), (.ref b1_0), (.ref b9), (.ref b8_0)])) rfl rfl (hb hby at_165) _ ?_
  refine st42 _ ?_
  refine iN X42 hx hby at_169 rfl ?_
  refine iC X42 hx hby at_170 ?_
  refine XS.icmpYes X42.here hx rfl (pc0 := 171) (pc' := 185) rfl (hb hby at_171) rfl (flt (by decide : ¬ ((4:Int32) < (4:Int32)))).2.2.2 (by decide) (by decide) ?_
  refine iN X42 hx hby at_185 rfl ?_
  refine iC X42 hx hby at_186 ?_
  refine XS.icmpYes X42.here hx rfl (pc0 := 187) (pc' := 201) rfl (hb hby at_187) rfl (flt (by decide : ¬ ((5:Int32) < (4:Int32)))).2.2.2 (by decide) (by decide) ?_
  refine aL X42 hx hby at_201 rfl rfl ?_
  refine iC X42 hx hby at_203 ?_
  refine X42.iaload hx (j := (0:Int32)) (v := (.int (own_nf (own_nf (own_nf (own_nf (0:Int32) (own_pk i0 i1 (0:Int32))) (own_pk i0 i1 (1:Int32))) (own_pk i0 i1 (2:Int32))) (own_pk i0 i1 (3:Int32))))) Ar44.1 (State.isArrayOf_alike hZ8.alike Ar44.2.1) Ar44.2.2 hin44 (Has.at H44 hin44 rfl) (g := (mkF m 204 #[iv i0, .val (.long i1), .second, iv (4:Int32), rv b1_0, rv b3_0, rv b8_0, rv b9, un] [(.int (0:Int32)), (.ref b9)])) rfl rfl (hb hby at_204) _ ?_
  refine XS.istore X42.here hx rfl (hb hby at_205) rfl (l' := #[iv i0, .val (.long i1), .second, iv (4:Int32), rv b1_0, rv b3_0, rv b8_0, rv b9, iv (own_nf (own_nf (own_nf (own_nf (0:Int32) (own_pk i0 i1 (0:Int32))) (own_pk i0 i1 (1:Int32))) (own_pk i0 i1 (2:Int32))) (own_pk i0 i1 (3:Int32)))]) rfl ?_
  refine aL X42 hx hby at_207 rfl rfl ?_
  refine iC X42 hx hby at_209 ?_
  refine X42.iaload hx (j := (2:Int32)) (v := (.int (1:Int32))) Ar45.1 (State.isArrayOf_alike hZ8.alike Ar45.2.1) Ar45.2.2 hin45 (Has.at H45 hin45 rfl) (g := (mkF m 210 #[iv i0, .val (.long i1), .second, iv (4:Int32), rv b1_0, rv b3_0, rv b8_0, rv b9, iv (own_nf (own_nf (own_nf (own_nf (0:Int32) (own_pk i0 i1 (0:Int32))) (own_pk i0 i1 (1:Int32))) (own_pk i0 i1 (2:Int32))) (own_pk i0 i1 (3:Int32)))] [(.int (2:Int32)), (.ref b9)])) rfl rfl (hb hby at_210) _ ?_
  refine iC X42 hx hby at_211 ?_
  refine XS.icmpNo X42.here hx rfl (hb hby at_212) rfl (teq (rfl : (1:Int32) = (1:Int32))).2 ?_
  refine iL X42 hx hby at_215 rfl ?_
  refine aL X42 hx hby at_217 rfl rfl ?_
  show St p e below T42 m 219 #[iv i0, .val (.long i1), .second, iv (4:Int32), rv b1_0, rv b3_0, rv b8_0, rv b9, iv (own_nf (own_nf (own_nf (own_nf (0:Int32) (own_pk i0 i1 (0:Int32))) (own_pk i0 i1 (1:Int32))) (own_pk i0 i1 (2:Int32))) (own_pk i0 i1 (3:Int32)))] [(.ref b8_0), (.int (own_nf (own_nf (own_nf (own_nf (0:Int32) (own_pk i0 i1 (0:Int32))) (own_pk i0 i1 (1:Int32))) (own_pk i0 i1 (2:Int32))) (own_pk i0 i1 (3:Int32))))] _
  refine own_rlen X42 hx hZ8 f47 rfl (g := (mkF m 219 #[iv i0, .val (.long i1), .second, iv (4:Int32), rv b1_0, rv b3_0, rv b8_0, rv b9, iv (own_nf (own_nf (own_nf (own_nf (0:Int32) (own_pk i0 i1 (0:Int32))) (own_pk i0 i1 (1:Int32))) (own_pk i0 i1 (2:Int32))) (own_pk i0 i1 (3:Int32)))] [(.ref b8_0), (.int (own_nf (own_nf (own_nf (own_nf (0:Int32) (own_pk i0 i1 (0:Int32))) (own_pk i0 i1 (1:Int32))) (own_pk i0 i1 (2:Int32))) (own_pk i0 i1 (3:Int32))))])) rfl rfl (hb hby at_219) _ ?_
  refine iC X42 hx hby at_220 ?_
  refine XS.isub X42.here hx rfl (hb hby at_221) rfl ?_
  refine XS.icmpNo X42.here hx rfl (hb hby at_222) rfl (teq hc48).2 ?_
  refine aL X42 hx hby at_225 rfl rfl ?_
  refine iL X42 hx hby at_227 rfl ?_
  refine st49 _ ?_
  refine XS.ifnullNo X42.here hx rfl (hb hby at_230) rfl ?_
  refine aL X42 hx hby at_233 rfl rfl ?_
  refine iL X42 hx hby at_235 rfl ?_
  refine st51 _ ?_
  refine st52.trans ?_
  refine aL X52 hx hby at_241 rfl rfl ?_
  refine iC X52 hx hby at_243 ?_
  refine X52.iaload hx (j := (1:Int32)) (v := (.int (own_no (own_no (own_no (own_no (0:Int32) (own_pk i0 i1 (0:Int32))) (own_pk i0 i1 (1:Int32))) (own_pk i0 i1 (2:Int32))) (own_pk i0 i1 (3:Int32))))) (by rw [e52]; exact Ar53.1) (State.isArrayOf_alike hZ8.alike Ar53.2.1) Ar53.2.2 hin53 (Has.at H53 hin53 rfl) (g := (mkF m 244 #[iv i0, .val (.long i1), .second, iv (4:Int32), rv b1_0, rv b3_0, rv b8_0, rv b9, iv (own_nf (own_nf (own_nf (own_nf (0:Int32) (own_pk i0 i1 (0:Int32))) (own_pk i0 i1 (1:Int32))) (own_pk i0 i1 (2:Int32))) (own_pk i0 i1 (3:Int32)))] [(.int (1:Int32)), (.ref b9), (.int (own_tn (own_nth (own_sp [(own_pk i0 i1 (0:Int32)), (own_pk i0 i1 (1:Int32)), (own_pk i0 i1 (2:Int32)), (own_pk i0 i1 (3:Int32))]) (own_nf (own_nf (own_nf (own_nf (0:Int32) (own_pk i0 i1 (0:Int32))) (own_pk i0 i1 (1:Int32))) (own_pk i0 i1 (2:Int32))) (own_pk i0 i1 (3:Int32))))))])) rfl rfl (hb hby at_244) _ ?_
  refine XS.icmpNo X52.here hx rfl (hb hby at_245) rfl (teq hc54).2 ?_
  refine iC X52 hx hby at_248 ?_
  refine XS.goto X52.here hx rfl (pc0 := 249) (pc' := 253) rfl (hb hby at_249) (by decide) (by decide) ?_
  exact retN X52 hx (t := .boolean) Bd.returns (by simp) (hb hby at_253) hr
theorem d2_121 : dk method_4_code 121 (.iload_n 1) 1 := by decide +kernel
theorem d2_122 : dk method_4_code 122 (.iconst 5) 1 := by decide +kernel
theorem d2_123 : dk method_4_code 123 (.if_icmp .ne 44) 3 := by decide +kernel
theorem d2_126 : dk method_4_code 126 (.new 28) 3 := by decide +kernel
theorem d2_129 : dk method_4_code 129 .dup 1 := by decide +kernel
theorem d2_130 : dk method_4_code 130 (.iconst 5) 1 := by decide +kernel
theorem d2_131 : dk method_4_code 131 (.newarray .char) 2 := by decide +kernel
theorem d2_133 : dk method_4_code 133 .dup 1 := by decide +kernel
theorem d2_134 : dk method_4_code 134 (.iconst 0) 1 := by decide +kernel
theorem d2_135 : dk method_4_code 135 (.aload_n 0) 1 := by decide +kernel
theorem d2_136 : dk method_4_code 136 (.iconst 0) 1 := by decide +kernel
theorem d2_137 : dk method_4_code 137 .caload 1 := by decide +kernel
theorem d2_138 : dk method_4_code 138 .castore 1 := by decide +kernel
theorem d2_139 : dk method_4_code 139 .dup 1 := by decide +kernel
theorem d2_140 : dk method_4_code 140 (.iconst 1) 1 := by decide +kernel
theorem d2_141 : dk method_4_code 141 (.aload_n 0) 1 := by decide +kernel
theorem d2_142 : dk method_4_code 142 (.iconst 1) 1 := by decide +kernel
theorem d2_143 : dk method_4_code 143 .caload 1 := by decide +kernel
theorem d2_144 : dk method_4_code 144 .castore 1 := by decide +kernel
theorem d2_145 : dk method_4_code 145 .dup 1 := by decide +kernel
theorem d2_146 : dk method_4_code 146 (.iconst 2) 1 := by decide +kernel
theorem d2_147 : dk method_4_code 147 (.aload_n 0) 1 := by decide +kernel
theorem d2_148 : dk method_4_code 148 (.iconst 2) 1 := by decide +kernel
theorem d2_149 : dk method_4_code 149 .caload 1 := by decide +kernel
theorem d2_150 : dk method_4_code 150 .castore 1 := by decide +kernel
theorem d2_151 : dk method_4_code 151 .dup 1 := by decide +kernel
theorem d2_152 : dk method_4_code 152 (.iconst 3) 1 := by decide +kernel
theorem d2_153 : dk method_4_code 153 (.aload_n 0) 1 := by decide +kernel
theorem d2_154 : dk method_4_code 154 (.iconst 3) 1 := by decide +kernel
theorem d2_155 : dk method_4_code 155 .caload 1 := by decide +kernel
theorem d2_156 : dk method_4_code 156 .castore 1 := by decide +kernel
theorem d2_157 : dk method_4_code 157 .dup 1 := by decide +kernel
theorem d2_158 : dk method_4_code 158 (.iconst 4) 1 := by decide +kernel
theorem d2_159 : dk method_4_code 159 (.aload_n 0) 1 := by decide +kernel
theorem d2_160 : dk method_4_code 160 (.iconst 4) 1 := by decide +kernel
theorem d2_161 : dk method_4_code 161 .caload 1 := by decide +kernel
theorem d2_162 : dk method_4_code 162 .castore 1 := by decide +kernel
theorem d2_163 : dk method_4_code 163 (.invokespecial 39) 3 := by decide +kernel
theorem d2_166 : dk method_4_code 166 .areturn 1 := by decide +kernel
def r2_6Q (Z : State) (a1 : Addr) (k2 : ClassId) (p3 p4 p5 p6 p7 p8 p52:Int32) (h0 : Heap) (n0 : Nat) : QT := fun v h L => own_strQ Z [p3, p4, p5, p6, p7] h0 n0 v h L
theorem r2_6 (l : Launch) (Z : State) (a0 : Array Value) (hw : HW a0 Z) (ws : List Jvm.Cond) (a1 : Addr) (k2 : ClassId) (p3 p4 p5 p6 p7 p8 p52:Int32) (h0 : Heap) (n0 : Nat) (O0 : Old Z n0 h0) (H9 : Arv Z h0 a1 k2 .char (6:Int32) [(.int p3), (.int p4), (.int p5), (.int p6), (.int p7), (.int p8)] (.int (0:Int32))) (H20 : xE0 Z h0 a1) (H53 : Sta Z Z.heap "java/lang/String" "COMPACT_STRINGS" "Z" (.int p52)) (hc54 : ¬ (p52 = (0:Int32))) (hc55 : ¬ ((nar .char p7) < (0:Int32)) ∧ ¬ ((255:Int32) < (nar .char p7))) (hc56 : ¬ ((nar .char p6) < (0:Int32)) ∧ ¬ ((255:Int32) < (nar .char p6))) (hc57 : ¬ ((nar .char p5) < (0:Int32)) ∧ ¬ ((255:Int32) < (nar .char p5))) (hc58 : ¬ ((nar .char p4) < (0:Int32)) ∧ ¬ ((255:Int32) < (nar .char p4))) (hc59 : ¬ ((nar .char p3) < (0:Int32)) ∧ ¬ ((255:Int32) < (nar .char p3))) (H64 : nar .char p3 = p3) (H65 : nar .char p4 = p4) (H66 : nar .char p5 = p5) (H67 : nar .char p6 = p6) (H68 : nar .char p7 = p7) :
    MFH l y2 method_4_code 2 (some (.object "java/lang/String")) ws (rM 4 3 14 66) Z #[(.ref a1), (.int (5:Int32))] h0 (r2_6Q Z a1 k2 p3 p4 p5 p6 p7 p8 p52 h0 n0) := by
  refine own_inH (pq pn0) #[rv a1, iv (5:Int32)] (fun _ => by first | (simp [entryFrame, mkF, argsToLocals, Value.category]; done) | rfl) ?_
  intro p e s m below meth c s₁ Bd hx hby hml hown hnm hZ hh C0 e0 X0
  have N0 := Fr.nil n0
  obtain ⟨_, h10, X10, e10, E10, A10, D10, -, st10⟩ := newO X0 hx hZ hown (ow hw 130 rfl) (ow hw 10 rfl) (ow hw 9 rfl) e0 (g := (mkF m 126 #[rv a1, iv (5:Int32)] [])) rfl (hb hby d2_126) (by decide) (by decide)
  obtain ⟨b10, g10⟩ : ∃ z, z = h0.size := ⟨_, rfl⟩
  rw [← g10] at A10 D10 st10
  have O_E10 : Old Z n0 h10 := O0.ext E10
  have Kp_E10 : Keep h0 h10 [] := (Keep.refl h0 []).ext E10
  have c_E10 := CHr.ext E10 C0.1
  have C_E10 := C0.trans c_E10
  obtain ⟨T11, h11, k11, X11, e11, E11, A11, C11, st11⟩ := newPE X10 hx hZ (aty := .char) (ow hw 0 rfl) e10 (g := (mkF m 131 #[rv a1, iv (5:Int32)] [(.int (5:Int32)), (.ref b10), (.ref b10)])) rfl (hb hby d2_131) rfl (by decide) (cap := 5) (by decide) (by decide) (by decide) (by decide) (ad := "[C") (by decide)
  obtain ⟨b11, g11⟩ : ∃ z, z = h10.size := ⟨_, rfl⟩
  rw [← g11] at A11 C11 st11
  have O_E11 : Old Z n0 h11 := O_E10.ext E11
  have Kp_E11 : Keep h0 h11 [] := Kp_E10.ext E11
  have c_E11 := CHr.ext E11 C_E10.1
  have C_E11 := C_E10.trans c_E11
  have V11 : Arv Z h11 b11 k11 .char (5:Int32) [(.int (0:Int32)), (.int (0:Int32)), (.int (0:Int32)), (.int (0:Int32)), (.int (0:Int32))] (.int (0:Int32)) := (Arv.new A11 (by decide)).pad (pad_rep [] (.int (0:Int32)) 5)
  have f13 := ((H9.ext E10).ext E11)
  obtain ⟨cl12, Ar12, _, S12, _, H12, _⟩ := id f13
  have hin12 : ¬ ((0:Int32) < 0 ∨ cl12.slots.size ≤ ((0:Int32)).toNatClampNeg) := inb_of S12 ⟨by decide, by decide⟩
  obtain ⟨cl14, Ar14, q14, S14, M14, H14, G14⟩ := id V11
  have hin14 : ¬ ((0:Int32) < 0 ∨ cl14.slots.size ≤ ((0:Int32)).toNatClampNeg) := inb_of S14 ⟨by decide, by decide⟩
  obtain ⟨_, h14, X14, e14, W14, st14⟩ := stC X11 hx hZ e11 Ar14 (j := (0:Int32)) hin14 (g := (mkF m 138 #[rv a1, iv (5:Int32)] [(.int p3), (.int (0:Int32)), (.ref b11), (.ref b11), (.ref b10), (.ref b10)])) rfl rfl (hb hby d2_138)
  have g16 : n0 ≤ b11 := Nat.le_trans (Nat.le_trans (Nat.le_of_eq O_E10.1.symm) O_E10.2.1) (Nat.le_of_eq g11.symm)
  have z17 : h0.size ≤ b11 := Nat.le_trans Kp_E10.1 (Nat.le_of_eq g11.symm)
  have O_W14 : Old Z n0 h14 := O_E11.wr W14 g16
  have Kp_W14 : Keep h0 h14 [] := Kp_E11.wr W14 (Or.inr z17)
  have c_W14 := CHr.wr W14 (Safe.ext E11 C_E10.1 (Safe.new (Nat.le_of_eq g11.symm))) C_E11.1
  have C_W14 := C_E11.trans c_W14
  have N18 := Fr.snoc X14 N0 g16
  have f15 : Arv Z h14 b11 k11 .char (5:Int32) [(.int (nar .char p3)), (.int (0:Int32)), (.int (0:Int32)), (.int (0:Int32)), (.int (0:Int32))] (.int (0:Int32)) := Arv.set Ar14 q14 S14 M14 H14 G14 (fits_nar_char _) W14 0 rfl (Nat.le_of_ble_eq_true rfl)
  have ne22 : a1 ≠ b11 := Nat.ne_of_lt (Nat.lt_of_lt_of_le (H20.ext E10).lt (Nat.le_of_eq g11.symm))
  have f23 := (f13.other W14 ne22)
  obtain ⟨cl19, Ar19, _, S19, _, H19, _⟩ := id f23
  have hin19 : ¬ ((1:Int32) < 0 ∨ cl19.slots.size ≤ ((1:Int32)).toNatClampNeg) := inb_of S19 ⟨by decide, by decide⟩
  obtain ⟨cl24, Ar24, q24, S24, M24, H24, G24⟩ := id f15
  have hin24 : ¬ ((1:Int32) < 0 ∨ cl24.slots.size ≤ ((1:Int32)).toNatClampNeg) := inb_of S24 ⟨by decide, by decide⟩
  obtain ⟨_, h24, X24, e24, W24, st24⟩ := stC X14 hx hZ e14 Ar24 (j := (1:Int32)) hin24 (g := (mkF m 144 #[rv a1, iv (5:Int32)] [(.int p4), (.int (1:Int32)), (.ref b11), (.ref b11), (.ref b10), (.ref b10)])) rfl rfl (hb hby d2_144)
  have sf26 := (c_W14.safe C11.lt (Safe.ext E11 C_E10.1 (Safe.new (Nat.le_of_eq g11.symm))))
  have O_W24 : Old Z n0 h24 := O_W14.wr W24 g16
  have Kp_W24 : Keep h0 h24 [] := Kp_W14.wr W24 (Or.inr z17)
  have c_W24 := CHr.wr W24 sf26 C_W14.1
  have C_W24 := C_W14.trans c_W24
  have N27 := Fr.snoc X24 N18 g16
  have f25 : Arv Z h24 b11 k11 .char (5:Int32) [(.int (nar .char p3)), (.int (nar .char p4)), (.int (0:Int32)), (.int (0:Int32)), (.int (0:Int32))] (.int (0:Int32)) := Arv.set Ar24 q24 S24 M24 H24 G24 (fits_nar_char _) W24 1 rfl (Nat.le_of_ble_eq_true rfl)
  have f29 := (f23.other W24 ne22)
  obtain ⟨cl28, Ar28, _, S28, _, H28, _⟩ := id f29
  have hin28 : ¬ ((2:Int32) < 0 ∨ cl28.slots.size ≤ ((2:Int32)).toNatClampNeg) := inb_of S28 ⟨by decide, by decide⟩
  obtain ⟨cl30, Ar30, q30, S30, M30, H30, G30⟩ := id f25
  have hin30 : ¬ ((2:Int32) < 0 ∨ cl30.slots.size ≤ ((2:Int32)).toNatClampNeg) := inb_of S30 ⟨by decide, by decide⟩
  obtain ⟨_, h30, X30, e30, W30, st30⟩ := stC X24 hx hZ e24 Ar30 (j := (2:Int32)) hin30 (g := (mkF m 150 #[rv a1, iv (5:Int32)] [(.int p5), (.int (2:Int32)), (.ref b11), (.ref b11), (.ref b10), (.ref b10)])) rfl rfl (hb hby d2_150)
  have sf32 := (c_W24.safe (C11.wr W14).lt sf26)
  have O_W30 : Old Z n0 h30 := O_W24.wr W30 g16
  have Kp_W30 : Keep h0 h30 [] := Kp_W24.wr W30 (Or.inr z17)
  have c_W30 := CHr.wr W30 sf32 C_W24.1
  have C_W30 := C_W24.trans c_W30
  have N33 := Fr.snoc X30 N27 g16
  have f31 : Arv Z h30 b11 k11 .char (5:Int32) [(.int (nar .char p3)), (.int (nar .char p4)), (.int (nar .char p5)), (.int (0:Int32)), (.int (0:Int32))] (.int (0:Int32)) := Arv.set Ar30 q30 S30 M30 H30 G30 (fits_nar_char _) W30 2 rfl (Nat.le_of_ble_eq_true rfl)
  have f35 := (f29.other W30 ne22)
  obtain ⟨cl34, Ar34, _, S34, _, H34, _⟩ := id f35
  have hin34 : ¬ ((3:Int32) < 0 ∨ cl34.slots.size ≤ ((3:Int32)).toNatClampNeg) := inb_of S34 ⟨by decide, by decide⟩
  obtain ⟨cl36, Ar36, q36, S36, M36, H36, G36⟩ := id f31
  have hin36 : ¬ ((3:Int32) < 0 ∨ cl36.slots.size ≤ ((3:Int32)).toNatClampNeg) := inb_of S36 ⟨by decide, by decide⟩
  obtain ⟨T36, h36, X36, e36, W36, st36⟩ := stC X30 hx hZ e30 Ar36 (j := (3:Int32)) hin36 (g := (mkF m 156 #[rv a1, iv (5:Int32)] [(.int p6), (.int (3:Int32)), (.ref b11), (.ref b11), (.ref b10), (.ref b10)])) rfl rfl (hb hby d2_156)
  have sf38 := (c_W30.safe ((C11.wr W14).wr W24).lt sf32)
  have O_W36 : Old Z n0 h36 := O_W30.wr W36 g16
  have Kp_W36 : Keep h0 h36 [] := Kp_W30.wr W36 (Or.inr z17)
  have c_W36 := CHr.wr W36 sf38 C_W30.1
  have C_W36 := C_W30.trans c_W36
  have N39 := Fr.snoc X36 N33 g16
  have f37 : Arv Z h36 b11 k11 .char (5:Int32) [(.int (nar .char p3)), (.int (nar .char p4)), (.int (nar .char p5)), (.int (nar .char p6)), (.int (0:Int32))] (.int (0:Int32)) := Arv.set Ar36 q36 S36 M36 H36 G36 (fits_nar_char _) W36 3 rfl (Nat.le_of_ble_eq_true rfl)
  have f41 := (f35.other W36 ne22)
  obtain ⟨cl40, Ar40, _, S40, _, H40, _⟩ := id f41
  have hin40 : ¬ ((4:Int32) < 0 ∨ cl40.slots.size ≤ ((4:Int32)).toNatClampNeg) := inb_of S40 ⟨by decide, by decide⟩
  obtain ⟨cl42, Ar42, q42, S42, M42, H42, G42⟩ := id f37
  have hin42 : ¬ ((4:Int32) < 0 ∨ cl42.slots.size ≤ ((4:Int32)).toNatClampNeg) := inb_of S42 ⟨by decide, by decide⟩
  obtain ⟨_, h42, X42, e42, W42, st42⟩ := stC X36 hx hZ e36 Ar42 (j := (4:Int32)) hin42 (g := (mkF m 162 #[rv a1, iv (5:Int32)] [(.int p7), (.int (4:Int32)), (.ref b11), (.ref b11), (.ref b10), (.ref b10)])) rfl rfl (hb hby d2_162)
  have sf44 := (c_W36.safe (((C11.wr W14).wr W24).wr W30).lt sf38)
  have O_W42 : Old Z n0 h42 := O_W36.wr W42 g16
  have Kp_W42 : Keep h0 h42 [] := Kp_W36.wr W42 (Or.inr z17)
  have c_W42 := CHr.wr W42 sf44 C_W36.1
  have C_W42 := C_W36.trans c_W42
  have N45 := Fr.snoc X42 N39 g16
  have f43 : Arv Z h42 b11 k11 .char (5:Int32) [(.int (nar .char p3)), (.int (nar .char p4)), (.int (nar .char p5)), (.int (nar .char p6)), (.int (nar .char p7))] (.int (0:Int32)) := Arv.set Ar42 q42 S42 M42 H42 G42 (fits_nar_char _) W42 4 rfl (Nat.le_of_ble_eq_true rfl)
  have f46 := ((((((A10.ext E11).wr W14).wr W24).wr W30).wr W36).wr W42)
  have f47 : xF3 Z h10 b10 .null := D10 (Or.inr (ow hw 12 rfl)) (ty := (.array .byte)) (by decide)
  have ne48 : b10 ≠ b11 := Nat.ne_of_lt (Nat.lt_of_lt_of_le A10.lt (Nat.le_of_eq g11.symm))
  have f49 := ((((((f47.ext E11).other W14 (Or.inl ne48)).other W24 (Or.inl ne48)).other W30 (Or.inl ne48)).other W36 (Or.inl ne48)).other W42 (Or.inl ne48))
  have f50 : xF2 Z h10 b10 (.int (0:Int32)) := D10 (Or.inr (ow hw 13 rfl)) (ty := .byte) (by decide)
  have f51 := ((((((f50.ext E11).other W14 (Or.inl ne48)).other W24 (Or.inl ne48)).other W30 (Or.inl ne48)).other W36 (Or.inl ne48)).other W42 (Or.inl ne48))
  have g60 : n0 ≤ b10 := Nat.le_trans (Nat.le_trans (Nat.le_of_eq O0.1.symm) O0.2.1) (Nat.le_of_eq g10.symm)
  obtain ⟨T61, _, _, X61, hQ61, st61⟩ := fl X42 (X42.specialBack hx (y := y28) rfl hown (mo hZ hw 131 rfl) (mo hZ hw 132 rfl) (mo hZ hw 133 rfl) (by decide) (own_newB (W := 1) (cs := [(nar .char p3), (nar .char p4), (nar .char p5), (nar .char p6), (nar .char p7)]) (nn := 5) rfl (Nat.le_trans (Nat.le_of_eq O_W42.1.symm) O_W42.2.1) g60 hZ hw (ow hw 10 rfl) f46 f49 f51 f43 (H53.ext O_W42.2) hc54 rfl (Nat.le_of_ble_eq_true rfl) (Nat.le_of_ble_eq_true rfl) (own_allS hc59 (own_allS hc58 (own_allS hc57 (own_allS hc56 (own_allS hc55 own_all0))))) (by decide) (by decide)) (g := (mkF m 163 #[rv a1, iv (5:Int32)] [(.ref b11), (.ref b10), (.ref b10)])) rfl (by rw [hml]; rfl) (Steps.refl _) (a := b10) (argsL := [(.ref b11)]) (rest := [(.ref b10)]) (lenOf pd17 rfl) rfl wf (hb hby d2_163) (fun _ _ => ⟨rfl, e42, (by decide : 2 + 1 ≤ _), (by decide : 9 + 5 ≤ _)⟩))
  obtain ⟨b61_0, k61_0, rfl, N61q, K61, _, f61_2, f61_3, f61_4, f61_5⟩ := hQ61
  have N61 := Fr.app N45 N61q
  have sf62 := (c_W42.safe (((((A10.ext E11).wr W14).wr W24).wr W30).wr W36).lt (c_W36.safe ((((A10.ext E11).wr W14).wr W24).wr W30).lt (c_W30.safe (((A10.ext E11).wr W14).wr W24).lt (c_W24.safe ((A10.ext E11).wr W14).lt (c_W14.safe (A10.ext E11).lt (c_E11.safe A10.lt (Safe.ext E10 C0.1 (Safe.new (Nat.le_of_eq g10.symm)))))))))
  have z63 : h0.size ≤ b10 := Nat.le_trans (Keep.refl h0 []).1 (Nat.le_of_eq g10.symm)
  have Kp_K61 : Keep h0 T61.heap [] := Kp_W42.trans K61 (allS (Or.inr z63) all0)
  have c_K61 := CHr.keep K61 (allS sf62 all0) C_W42.1
  have C_K61 := C_W42.trans c_K61
  refine finH (Q := r2_6Q Z a1 k2 p3 p4 p5 p6 p7 p8 p52 h0 n0) (rm := (rM 4 3 14 66)) (vm := s.vm) Bd X61 hZ (own_EW hw) C_K61 hh rfl (State.WarmedH.since (State.WarmedH.refl s) 0) (Nat.zero_le _) (some (.ref b10)) nofun ⟨b10, b61_0, k61_0, rfl, N61, Kp_K61, f61_2, f61_3, f61_4, (own_cast rfl (by rw [H64, H65, H66, H67, H68]) f61_5)⟩ (by decide) (by decide) fun fs hr => ?_
  show St p e below s₁ m 0 #[rv a1, iv (5:Int32)] [] _
  refine iN X0 hx hby d2_0 rfl ?_
  refine XS.ifYes X0.here hx rfl (pc0 := 1) (pc' := 7) rfl (hb hby d2_1) rfl ((if0 _ _).trans (feq (by decide : ¬ ((5:Int32) = (0:Int32)))).2) (by decide) (by decide) ?_
  refine iN X0 hx hby d2_7 rfl ?_
  refine iC X0 hx hby d2_8 ?_
  refine XS.icmpYes X0.here hx rfl (pc0 := 9) (pc' := 19) rfl (hb hby d2_9) rfl (feq (by decide : ¬ ((5:Int32) = (1:Int32)))).2 (by decide) (by decide) ?_
  refine iN X0 hx hby d2_19 rfl ?_
  refine iC X0 hx hby d2_20 ?_
  refine XS.icmpYes X0.here hx rfl (pc0 := 21) (pc' := 47) rfl (hb hby d2_21) rfl (feq (by decide : ¬ ((5:Int32) = (2:Int32)))).2 (by decide) (by decide) ?_
  refine iN X0 hx hby d2_47 rfl ?_
  refine iC X0 hx hby d2_48 ?_
  refine XS.icmpYes X0.here hx rfl (pc0 := 49) (pc' := 81) rfl (hb hby d2_49) rfl (feq (by decide : ¬ ((5:Int32) = (3:Int32)))).2 (by decide) (by decide) ?_
  refine iN X0 hx hby d2_81 rfl ?_
  refine iC X0 hx hby d2_82 ?_
  refine XS.icmpYes X0.here hx rfl (pc0 := 83) (pc' := 121) rfl (hb hby d2_83) rfl (feq (by decide : ¬ ((5:Int32) = (4:Int32)))).2 (by decide) (by decide) ?_
  refine iN X0 hx hby d2_121 rfl ?_
  refine iC X0 hx hby d2_122 ?_
  refine XS.icmpNo X0.here hx rfl (hb hby d2_123) rfl (teq (rfl : (5:Int32) = (5:Int32))).2 ?_
  refine st10 _ ?_
  refine XS.dup X10.here hx rfl (hb hby d2_129) rfl rfl ?_
  refine iC X10 hx hby d2_130 ?_
  refine st11 _ ?_
  refine XS.dup X11.here hx rfl (hb hby d2_133) rfl rfl ?_
  refine iC X11 hx hby d2_134 ?_
  refine aN X11 hx hby d2_135 rfl rfl ?_
  refine iC X11 hx hby d2_136 ?_
  show St p e below T11 m 137 #[rv a1, iv (5:Int32)] [(.int (0:Int32)), (.ref a1), (.int (0:Int32)), (.ref b11), (.ref b11), (.ref b10), (.ref b10)] _
  refine X11.caload hx (j := (0:Int32)) (v := (.int p3)) (by rw [e11]; exact Ar12.1) (State.isArrayOf_alike hZ.alike Ar12.2.1) Ar12.2.2 hin12 (Has.at H12 hin12 rfl) (g := (mkF m 137 #[rv a1, iv (5:Int32)] [(.int (0:Int32)), (.ref a1), (.int (0:Int32)), (.ref b11), (.ref b11), (.ref b10), (.ref b10)])) rfl rfl (hb hby d2_137) _ ?_
  refine st14 _ ?_
  refine XS.dup X14.here hx rfl (hb hby d2_139) rfl rfl ?_
  refine iC X14 hx hby d2_140 ?_
  refine aN X14 hx hby d2_141 rfl rfl ?_
  refine iC X14 hx hby d2_142 ?_
  refine X14.caload hx (j := (1:Int32)) (v := (.int p4)) (by rw [e14]; exact Ar19.1) (State.isArrayOf_alike hZ.alike Ar19.2.1) Ar19.2.2 hin19 (Has.at H19 hin19 rfl) (g := (mkF m 143 #[rv a1, iv (5:Int32)] [(.int (1:Int32)), (.ref a1), (.int (1:Int32)), (.ref b11), (.ref b11), (.ref b10), (.ref b10)])) rfl rfl (hb hby d2_143) _ ?_
  refine st24 _ ?_
  refine XS.dup X24.here hx rfl (hb hby d2_145) rfl rfl ?_
  refine iC X24 hx hby d2_146 ?_
  refine aN X24 hx hby d2_147 rfl rfl ?_
  refine iC X24 hx hby d2_148 ?_
  refine X24.caload hx (j := (2:Int32)) (v := (.int p5)) (by rw [e24]; exact Ar28.1) (State.isArrayOf_alike hZ.alike Ar28.2.1) Ar28.2.2 hin28 (Has.at H28 hin28 rfl) (g := (mkF m 149 #[rv a1, iv (5:Int32)] [(.int (2:Int32)), (.ref a1), (.int (2:Int32)), (.ref b11), (.ref b11), (.ref b10), (.ref b10)])) rfl rfl (hb hby d2_149) _ ?_
  refine st30 _ ?_
  refine XS.dup X30.here hx rfl (hb hby d2_151) rfl rfl ?_
  refine iC X30 hx hby d2_152 ?_
  refine aN X30 hx hby d2_153 rfl rfl ?_
  refine iC X30 hx hby d2_154 ?_
  refine X30.caload hx (j := (3:Int32)) (v := (.int p6)) (by rw [e30]; exact Ar34.1) (State.isArrayOf_alike hZ.alike Ar34.2.1) Ar34.2.2 hin34 (Has.at H34 hin34 rfl) (g := (mkF m 155 #[rv a1, iv (5:Int32)] [(.int (3:Int32)), (.ref a1), (.int (3:Int32)), (.ref b11), (.ref b11), (.ref b10), (.ref b10)])) rfl rfl (hb hby d2_155) _ ?_
  refine st36 _ ?_
  refine XS.dup X36.here hx rfl (hb hby d2_157) rfl rfl ?_
  refine iC X36 hx hby d2_158 ?_
  refine aN X36 hx hby d2_159 rfl rfl ?_
  refine iC X36 hx hby d2_160 ?_
  refine X36.caload hx (j := (4:Int32)) (v := (.int p7)) (by rw [e36]; exact Ar40.1) (State.isArrayOf_alike hZ.alike Ar40.2.1) Ar40.2.2 hin40 (Has.at H40 hin40 rfl) (g := (mkF m 161 #[rv a1, iv (5:Int32)] [(.int (4:Int32)), (.ref a1), (.int (4:Int32)), (.ref b11), (.ref b11), (.ref b10), (.ref b10)])) rfl rfl (hb hby d2_161) _ ?_
  show St p e below T36 m 162 #[rv a1, iv (5:Int32)] [(.int p7), (.int (4:Int32)), (.ref b11), (.ref b11), (.ref b10), (.ref b10)] _
  refine st42 _ ?_
  refine st61.trans ?_
  exact retA X61 hx Bd.returns rfl rfl (hb hby d2_166) hr
theorem law_6 (l : Launch) (Z : State) (a0 : Array Value) (hw : HW a0 Z) (ws : List Jvm.Cond) (zCOMPACT_STRINGS:Int32) (vF : Value) (B : Base Z zCOMPACT_STRINGS vF) (i0:Int32) (i1 : Int64) (h0 : Heap) (n0 : Nat) (O0 : Old Z n0 h0) (pin0 : (((i0.toUInt32 >>> ((6:Int32) &&& 31).toUInt32).toInt32) % (7:Int32)) = (5:Int32)) (hc20 : own_ok (own_sp [(own_pk i0 i1 (0:Int32)), (own_pk i0 i1 (1:Int32)), (own_pk i0 i1 (2:Int32)), (own_pk i0 i1 (3:Int32)), (own_pk i0 i1 (4:Int32))]) (0:Int32) (0:Int32) (own_pk i0 i1 (0:Int32))) (hc27 : own_ok (own_sp [(own_pk i0 i1 (0:Int32)), (own_pk i0 i1 (1:Int32)), (own_pk i0 i1 (2:Int32)), (own_pk i0 i1 (3:Int32)), (own_pk i0 i1 (4:Int32))]) (own_nf (0:Int32) (own_pk i0 i1 (0:Int32))) (own_no (0:Int32) (own_pk i0 i1 (0:Int32))) (own_pk i0 i1 (1:Int32))) (hc34 : own_ok (own_sp [(own_pk i0 i1 (0:Int32)), (own_pk i0 i1 (1:Int32)), (own_pk i0 i1 (2:Int32)), (own_pk i0 i1 (3:Int32)), (own_pk i0 i1 (4:Int32))]) (own_nf (own_nf (0:Int32) (own_pk i0 i1 (0:Int32))) (own_pk i0 i1 (1:Int32))) (own_no (own_no (0:Int32) (own_pk i0 i1 (0:Int32))) (own_pk i0 i1 (1:Int32))) (own_pk i0 i1 (2:Int32))) (hc41 : own_ok (own_sp [(own_pk i0 i1 (0:Int32)), (own_pk i0 i1 (1:Int32)), (own_pk i0 i1 (2:Int32)), (own_pk i0 i1 (3:Int32)), (own_pk i0 i1 (4:Int32))]) (own_nf (own_nf (own_nf (0:Int32) (own_pk i0 i1 (0:Int32))) (own_pk i0 i1 (1:Int32))) (own_pk i0 i1 (2:Int32))) (own_no (own_no (own_no (0:Int32) (own_pk i0 i1 (0:Int32))) (own_pk i0 i1 (1:Int32))) (own_pk i0 i1 (2:Int32))) (own_pk i0 i1 (3:Int32))) (hc48 : own_ok (own_sp [(own_pk i0 i1 (0:Int32)), (own_pk i0 i1 (1:Int32)), (own_pk i0 i1 (2:Int32)), (own_pk i0 i1 (3:Int32)), (own_pk i0 i1 (4:Int32))]) (own_nf (own_nf (own_nf (own_nf (0:Int32) (own_pk i0 i1 (0:Int32))) (own_pk i0 i1 (1:Int32))) (own_pk i0 i1 (2:Int32))) (own_pk i0 i1 (3:Int32))) (own_no (own_no (own_no (own_no (0:Int32) (own_pk i0 i1 (0:Int32))) (own_pk i0 i1 (1:Int32))) (own_pk i0 i1 (2:Int32))) (own_pk i0 i1 (3:Int32))) (own_pk i0 i1 (4:Int32))) (hc55 : (own_nf (own_nf (own_nf (own_nf (own_nf (0:Int32) (own_pk i0 i1 (0:Int32))) (own_pk i0 i1 (1:Int32))) (own_pk i0 i1 (2:Int32))) (own_pk i0 i1 (3:Int32))) (own_pk i0 i1 (4:Int32))) = ((own_n2 (own_sp [(own_pk i0 i1 (0:Int32)), (own_pk i0 i1 (1:Int32)), (own_pk i0 i1 (2:Int32)), (own_pk i0 i1 (3:Int32)), (own_pk i0 i1 (4:Int32))])) - (1:Int32))) (hc57 : own_inb (own_sp [(own_pk i0 i1 (0:Int32)), (own_pk i0 i1 (1:Int32)), (own_pk i0 i1 (2:Int32)), (own_pk i0 i1 (3:Int32)), (own_pk i0 i1 (4:Int32))]) (own_nf (own_nf (own_nf (own_nf (own_nf (0:Int32) (own_pk i0 i1 (0:Int32))) (own_pk i0 i1 (1:Int32))) (own_pk i0 i1 (2:Int32))) (own_pk i0 i1 (3:Int32))) (own_pk i0 i1 (4:Int32)))) (hc61 : (own_tn (own_nth (own_sp [(own_pk i0 i1 (0:Int32)), (own_pk i0 i1 (1:Int32)), (own_pk i0 i1 (2:Int32)), (own_pk i0 i1 (3:Int32)), (own_pk i0 i1 (4:Int32))]) (own_nf (own_nf (own_nf (own_nf (own_nf (0:Int32) (own_pk i0 i1 (0:Int32))) (own_pk i0 i1 (1:Int32))) (own_pk i0 i1 (2:Int32))) (own_pk i0 i1 (3:Int32))) (own_pk i0 i1 (4:Int32))))) = (own_no (own_no (own_no (own_no (own_no (0:Int32) (own_pk i0 i1 (0:Int32))) (own_pk i0 i1 (1:Int32))) (own_pk i0 i1 (2:Int32))) (own_pk i0 i1 (3:Int32))) (own_pk i0 i1 (4:Int32)))) :
    MFH l x code maxLocals ret ws room_1 Z #[(.int i0), (.long i1)] h0 (lawQ n0) := by
  refine own_inH (pq pn0) #[iv i0, .val (.long i1), .second, un, un, un, un, un, un] (fun _ => by first | (simp [entryFrame, mkF, argsToLocals, Value.category, maxLocals]; done) | rfl) ?_
  intro p e s m below meth c s₁ Bd hx hby hml hown hnm hZ hh C0 e0 X0
  have N0 := Fr.nil n0
  obtain ⟨B0, B1, B2, B3⟩ := B
  obtain ⟨_, h1, _, b1_0, k1_0, X1, e1, N1, K1, _, f1_2, f1_3, st1⟩ := g1_1 i0 i1 (5:Int32) ⟨X0, hx, hZ, hw, hby, hml, hown, e0, O0, N0, by decide, by decide, by decide, by decide⟩
  have O_K1 : Old Z n0 h1 := O0.keep K1 all0
  have c_K1 := CHr.keep K1 all0 C0.1
  have C_K1 := C0.trans c_K1
  obtain ⟨T3, _, _, X3, hSq3, hg3, Cq3, hQ3, st3⟩ := flH X1 (Jvm.RoadKit.callSS X1 hx (y := y2) hown (mo hZ hw 5 rfl) (mo hZ hw 6 rfl) (mo hZ hw 3 rfl) (mo hZ hw 7 rfl) (by decide) (backOfSH (s := s) (vm0 := s.vm) (W := 0) (r2_6 l Z a0 hw [] b1_0 k1_0 (own_pk i0 i1 (0:Int32)) (own_pk i0 i1 (1:Int32)) (own_pk i0 i1 (2:Int32)) (own_pk i0 i1 (3:Int32)) (own_pk i0 i1 (4:Int32)) (own_pk i0 i1 (5:Int32)) zCOMPACT_STRINGS h1 n0 O_K1 f1_2 f1_3 B0 B1 (⟨own_pkb0 _ _ _, own_pkbb _ _ _⟩) (⟨own_pkb0 _ _ _, own_pkbb _ _ _⟩) (⟨own_pkb0 _ _ _, own_pkbb _ _ _⟩) (⟨own_pkb0 _ _ _, own_pkbb _ _ _⟩) (⟨own_pkb0 _ _ _, own_pkbb _ _ _⟩) (own_pkn _ _ _) (own_pkn _ _ _) (own_pkn _ _ _) (own_pkn _ _ _) (own_pkn _ _ _)) hZ (ow hw 7 rfl) (ow hw 3 rfl) (by decide) (by decide) (own_EW hw) C_K1.1) (g := (mkF m 77 #[iv i0, .val (.long i1), .second, iv (5:Int32), rv b1_0, un, un, un, un] [(.int (5:Int32)), (.ref b1_0)])) rfl (by rw [hml]; rfl) (argsL := [(.ref b1_0), (.int (5:Int32))]) (rest := []) (lenOf pd4 rfl) rfl wf (hb hby at_77) (fun _ _ => ⟨rfl, e1, (by decide : 1 + 3 ≤ _), (by decide : 6 + 14 ≤ _)⟩))
  obtain ⟨Y3, hS3, hZ3, hown3⟩ := rebS (s := s) (vm0 := s.vm) (State.WarmedH.since (State.WarmedH.refl s) 0) (by rw [e1]; exact (Nat.zero_le _)) X3 hSq3 hg3 hZ hown
  obtain ⟨b3_0, b3_1, k3_0, rfl, N3q, K3, f3_1, f3_2, f3_3, f3_4⟩ := hQ3
  have N3 := Fr.app N1 N3q
  have O_K3 : Old Z n0 T3.heap := O_K1.keep K3 all0
  have c_K3 := Cq3
  have C_K3 := C_K1.trans c_K3
  have f4 := (f1_3.keep K3)
  have f6 := (f1_2.keep K3 nin0)
  obtain ⟨T8, _, _, X8, hSq8, hg8, Cq8, hQ8, st8⟩ := flH Y3 (Jvm.RoadKit.callSS Y3 hx (y := y3) hown3 (mo hZ3 hw 16 rfl) (mo hZ3 hw 17 rfl) (mo hZ3 hw 18 rfl) (mo hZ3 hw 19 rfl) (by decide) (backOfSH (s := s) (vm0 := T3.vm) (W := 0) (own_fields l Z a0 hw [] b3_0 b3_1 k3_0 ([(own_pk i0 i1 (0:Int32)), (own_pk i0 i1 (1:Int32)), (own_pk i0 i1 (2:Int32)), (own_pk i0 i1 (3:Int32)), (own_pk i0 i1 (4:Int32))]) zCOMPACT_STRINGS vF T3.heap n0 O_K3 f3_1 f3_3 f3_2 f3_4 B0 B1 (⟨Nat.le_of_ble_eq_true rfl, (own_allS (own_pkb _ _ _) (own_allS (own_pkb _ _ _) (own_allS (own_pkb _ _ _) (own_allS (own_pkb _ _ _) (own_allS (own_pkb _ _ _) own_all0)))))⟩) B2 B3) hZ3 (ow hw 19 rfl) (ow hw 18 rfl) (by decide) (by decide) (own_EW hw) C_K3.1) (g := (mkF m 84 #[iv i0, .val (.long i1), .second, iv (5:Int32), rv b1_0, rv b3_0, un, un, un] [(.ref b3_0)])) rfl (by rw [hml]; rfl) (argsL := [(.ref b3_0)]) (rest := []) (lenOf pd0 rfl) rfl wf (hb hby at_84) (fun _ _ => ⟨rfl, rfl, (by decide : 4 + 15 ≤ _), (by decide : 20 + 77 ≤ _)⟩))
  obtain ⟨Y8, hS8, hZ8, hown8⟩ := rebS (s := s) (vm0 := T3.vm) hS3 (Nat.le_refl _) X8 hSq8 hg8 hZ3 hown3
  obtain ⟨b8_0, rfl, N8q, K8, _, f8_2⟩ := hQ8
  have N8 := Fr.app N3 N8q
  have O_K8 : Old Z n0 T8.heap := O_K3.keep K8 all0
  have c_K8 := Cq8
  have C_K8 := C_K3.trans c_K8
  obtain ⟨_, h9, k9, X9, e9, E9, A9, C9, st9⟩ := newPE Y8 hx hZ8 (aty := .int) (ow hw 86 rfl) rfl (g := (mkF m 97 #[iv i0, .val (.long i1), .second, iv (5:Int32), rv b1_0, rv b3_0, rv b8_0, un, un] [(.int (3:Int32))])) rfl (hb hby at_97) rfl (by decide) (cap := 3) (by decide) (by decide) (by decide) (by decide) (ad := "[I") (by decide)
  obtain ⟨b9, g9⟩ : ∃ z, z = T8.heap.size := ⟨_, rfl⟩
  rw [← g9] at A9 C9 st9
  have O_E9 : Old Z n0 h9 := O_K8.ext E9
  have c_E9 := CHr.ext E9 C_K8.1
  have C_E9 := C_K8.trans c_E9
  have V9 : Arv Z h9 b9 k9 .int (3:Int32) [(.int (0:Int32)), (.int (0:Int32)), (.int (0:Int32))] (.int (0:Int32)) := (Arv.new A9 (by decide)).pad (pad_rep [] (.int (0:Int32)) 3)
  obtain ⟨cl10, Ar10, q10, S10, M10, H10, G10⟩ := id V9
  have hin10 : ¬ ((2:Int32) < 0 ∨ cl10.slots.size ≤ ((2:Int32)).toNatClampNeg) := inb_of S10 ⟨by decide, by decide⟩
  obtain ⟨T10, h10, X10, e10, W10, st10⟩ := stI X9 hx hZ8 e9 Ar10 (j := (2:Int32)) hin10 (g := (mkF m 105 #[iv i0, .val (.long i1), .second, iv (5:Int32), rv b1_0, rv b3_0, rv b8_0, rv b9, un] [(.int (1:Int32)), (.int (2:Int32)), (.ref b9)])) rfl rfl (hb hby at_105)
  have g12 : n0 ≤ b9 := Nat.le_trans (Nat.le_trans (Nat.le_of_eq O_K8.1.symm) O_K8.2.1) (Nat.le_of_eq g9.symm)
  have O_W10 : Old Z n0 h10 := O_E9.wr W10 g12
  have c_W10 := CHr.wr W10 (Safe.ext E9 C_K8.1 (Safe.new (Nat.le_of_eq g9.symm))) C_E9.1
  have C_W10 := C_E9.trans c_W10
  have N14 := Fr.snoc X10 N8 g12
  have f11 : Arv Z h10 b9 k9 .int (3:Int32) [(.int (0:Int32)), (.int (0:Int32)), (.int (1:Int32))] (.int (0:Int32)) := Arv.set Ar10 q10 S10 M10 H10 G10 rfl W10 2 rfl (Nat.le_of_ble_eq_true rfl)
  have ne16 : b1_0 ≠ b9 := Nat.ne_of_lt (Nat.lt_of_lt_of_le (f4.keep K8).lt (Nat.le_of_eq g9.symm))
  have f17 := (((f6.keep K8 nin0).ext E9).other W10 ne16)
  obtain ⟨cl15, Ar15, _, S15, _, H15, _⟩ := id f17
  have hin15 : ¬ ((0:Int32) < 0 ∨ cl15.slots.size ≤ ((0:Int32)).toNatClampNeg) := inb_of S15 ⟨by decide, by decide⟩
  have f18 := ((f8_2.ext E9).keep1 (ow hw 10 rfl) (Keep.of_wr W10) V9)
  have f19 := (C9.wr W10)
  obtain ⟨T21, _, _, X21, hQ21, st21⟩ := cS X10 hx hZ8 hw hown8 (y := y26) 107 rfl 108 rfl 3 rfl 109 rfl (by decide) (W := 0) (own_step l Z a0 hw [] b8_0 b9 k9 (own_sp [(own_pk i0 i1 (0:Int32)), (own_pk i0 i1 (1:Int32)), (own_pk i0 i1 (2:Int32)), (own_pk i0 i1 (3:Int32)), (own_pk i0 i1 (4:Int32))]) (0:Int32) (0:Int32) (own_pk i0 i1 (0:Int32)) zCOMPACT_STRINGS vF h10 n0 O_W10 f11 f18 B0 B1 (own_gsp ⟨Nat.le_of_ble_eq_true rfl, (own_allS (own_pkb _ _ _) (own_allS (own_pkb _ _ _) (own_allS (own_pkb _ _ _) (own_allS (own_pkb _ _ _) (own_allS (own_pkb _ _ _) own_all0)))))⟩) g12 f19 B2 B3 hc20) (by decide) (by decide) e10 (g := (mkF m 118 #[iv i0, .val (.long i1), .second, iv (5:Int32), rv b1_0, rv b3_0, rv b8_0, rv b9, un] [(.int (own_pk i0 i1 (0:Int32))), (.ref b9), (.ref b8_0)])) rfl (by rw [hml]; rfl) (argsL := [(.ref b8_0), (.ref b9), (.int (own_pk i0 i1 (0:Int32)))]) (rest := []) (lenOf pd2 rfl) rfl wf (hb hby at_118) rfl (by decide) (by decide)
  obtain ⟨rfl, N21q, K21, f21_1⟩ := hQ21
  have N21 := Fr.app N14 N21q
  have sf22 := (c_W10.safe C9.lt (Safe.ext E9 C_K8.1 (Safe.new (Nat.le_of_eq g9.symm))))
  have O_K21 : Old Z n0 T21.heap := O_W10.keep K21 (allS g12 all0)
  have c_K21 := CHr.keep K21 (allS sf22 all0) C_W10.1
  have C_K21 := C_W10.trans c_K21
  have f24 := (f17.keep K21 (ninS ne16 nin0))
  obtain ⟨cl23, Ar23, _, S23, _, H23, _⟩ := id f24
  have hin23 : ¬ ((1:Int32) < 0 ∨ cl23.slots.size ≤ ((1:Int32)).toNatClampNeg) := inb_of S23 ⟨by decide, by decide⟩
  have f25 := (f18.keep1 (ow hw 10 rfl) K21 f11)
  have f26 := (f19.keep K21)
  obtain ⟨T28, _, _, X28, hQ28, st28⟩ := cS X21 hx hZ8 hw hown8 (y := y26) 107 rfl 108 rfl 3 rfl 109 rfl (by decide) (W := 0) (own_step l Z a0 hw [] b8_0 b9 k9 (own_sp [(own_pk i0 i1 (0:Int32)), (own_pk i0 i1 (1:Int32)), (own_pk i0 i1 (2:Int32)), (own_pk i0 i1 (3:Int32)), (own_pk i0 i1 (4:Int32))]) (own_nf (0:Int32) (own_pk i0 i1 (0:Int32))) (own_no (0:Int32) (own_pk i0 i1 (0:Int32))) (own_pk i0 i1 (1:Int32)) zCOMPACT_STRINGS vF T21.heap n0 O_K21 f21_1 f25 B0 B1 (own_gsp ⟨Nat.le_of_ble_eq_true rfl, (own_allS (own_pkb _ _ _) (own_allS (own_pkb _ _ _) (own_allS (own_pkb _ _ _) (own_allS (own_pkb _ _ _) (own_allS (own_pkb _ _ _) own_all0)))))⟩) g12 f26 B2 B3 hc27) (by decide) (by decide) rfl (g := (mkF m 134 #[iv i0, .val (.long i1), .second, iv (5:Int32), rv b1_0, rv b3_0, rv b8_0, rv b9, un] [(.int (own_pk i0 i1 (1:Int32))), (.ref b9), (.ref b8_0)])) rfl (by rw [hml]; rfl) (argsL := [(.ref b8_0), (.ref b9), (.int (own_pk i0 i1 (1:Int32)))]) (rest := []) (lenOf pd2 rfl) rfl wf (hb hby at_134) rfl (by decide) (by decide)
  obtain ⟨rfl, N28q, K28, f28_1⟩ := hQ28
  have N28 := Fr.app N21 N28q
  have sf29 := (c_K21.safe (C9.wr W10).lt sf22)
  have O_K28 : Old Z n0 T28.heap := O_K21.keep K28 (allS g12 all0)
  have c_K28 := CHr.keep K28 (allS sf29 all0) C_K21.1
  have C_K28 := C_K21.trans c_K28
  have f31 := (f24.keep K28 (ninS ne16 nin0))
  obtain ⟨cl30, Ar30, _, S30, _, H30, _⟩ := id f31
  have hin30 : ¬ ((2:Int32) < 0 ∨ cl30.slots.size ≤ ((2:Int32)).toNatClampNeg) := inb_of S30 ⟨by decide, by decide⟩
  have f32 := (f25.keep1 (ow hw 10 rfl) K28 f21_1)
  have f33 := (f26.keep K28)
  obtain ⟨T35, _, _, X35, hQ35, st35⟩ := cS X28 hx hZ8 hw hown8 (y := y26) 107 rfl 108 rfl 3 rfl 109 rfl (by decide) (W := 0) (own_step l Z a0 hw [] b8_0 b9 k9 (own_sp [(own_pk i0 i1 (0:Int32)), (own_pk i0 i1 (1:Int32)), (own_pk i0 i1 (2:Int32)), (own_pk i0 i1 (3:Int32)), (own_pk i0 i1 (4:Int32))]) (own_nf (own_nf (0:Int32) (own_pk i0 i1 (0:Int32))) (own_pk i0 i1 (1:Int32))) (own_no (own_no (0:Int32) (own_pk i0 i1 (0:Int32))) (own_pk i0 i1 (1:Int32))) (own_pk i0 i1 (2:Int32)) zCOMPACT_STRINGS vF T28.heap n0 O_K28 f28_1 f32 B0 B1 (own_gsp ⟨Nat.le_of_ble_eq_true rfl, (own_allS (own_pkb _ _ _) (own_allS (own_pkb _ _ _) (own_allS (own_pkb _ _ _) (own_allS (own_pkb _ _ _) (own_allS (own_pkb _ _ _) own_all0)))))⟩) g12 f33 B2 B3 hc34) (by decide) (by decide) rfl (g := (mkF m 150 #[iv i0, .val (.long i1), .second, iv (5:Int32), rv b1_0, rv b3_0, rv b8_0, rv b9, un] [(.int (own_pk i0 i1 (2:Int32))), (.ref b9), (.ref b8_0)])) rfl (by rw [hml]; rfl) (argsL := [(.ref b8_0), (.ref b9), (.int (own_pk i0 i1 (2:Int32)))]) (rest := []) (lenOf pd2 rfl) rfl wf (hb hby at_150) rfl (by decide) (by decide)
  obtain ⟨rfl, N35q, K35, f35_1⟩ := hQ35
  have N35 := Fr.app N28 N35q
  have sf36 := (c_K28.safe ((C9.wr W10).keep K21).lt sf29)
  have O_K35 : Old Z n0 T35.heap := O_K28.keep K35 (allS g12 all0)
  have c_K35 := CHr.keep K35 (allS sf36 all0) C_K28.1
  have C_K35 := C_K28.trans c_K35
  have f38 := (f31.keep K35 (ninS ne16 nin0))
  obtain ⟨cl37, Ar37, _, S37, _, H37, _⟩ := id f38
  have hin37 : ¬ ((3:Int32) < 0 ∨ cl37.slots.size ≤ ((3:Int32)).toNatClampNeg) := inb_of S37 ⟨by decide, by decide⟩
  have f39 := (f32.keep1 (ow hw 10 rfl) K35 f28_1)
  have f40 := (f33.keep K35)
  obtain ⟨T42, _, _, X42, hQ42, st42⟩ := cS X35 hx hZ8 hw hown8 (y := y26) 107 rfl 108 rfl 3 rfl 109 rfl (by decide) (W := 0) (own_step l Z a0 hw [] b8_0 b9 k9 (own_sp [(own_pk i0 i1 (0:Int32)), (own_pk i0 i1 (1:Int32)), (own_pk i0 i1 (2:Int32)), (own_pk i0 i1 (3:Int32)), (own_pk i0 i1 (4:Int32))]) (own_nf (own_nf (own_nf (0:Int32) (own_pk i0 i1 (0:Int32))) (own_pk i0 i1 (1:Int32))) (own_pk i0 i1 (2:Int32))) (own_no (own_no (own_no (0:Int32) (own_pk i0 i1 (0:Int32))) (own_pk i0 i1 (1:Int32))) (own_pk i0 i1 (2:Int32))) (own_pk i0 i1 (3:Int32)) zCOMPACT_STRINGS vF T35.heap n0 O_K35 f35_1 f39 B0 B1 (own_gsp ⟨Nat.le_of_ble_eq_true rfl, (own_allS (own_pkb _ _ _) (own_allS (own_pkb _ _ _) (own_allS (own_pkb _ _ _) (own_allS (own_pkb _ _ _) (own_allS (own_pkb _ _ _) own_all0)))))⟩) g12 f40 B2 B3 hc41) (by decide) (by decide) rfl (g := (mkF m 166 #[iv i0, .val (.long i1), .second, iv (5:Int32), rv b1_0, rv b3_0, rv b8_0, rv b9, un] [(.int (own_pk i0 i1 (3:Int32))), (.ref b9), (.ref b8_0)])) rfl (by rw [hml]; rfl) (argsL := [(.ref b8_0), (.ref b9), (.int (own_pk i0 i1 (3:Int32)))]) (rest := []) (lenOf pd2 rfl) rfl wf (hb hby at_166) rfl (by decide) (by decide)
  obtain ⟨rfl, N42q, K42, f42_1⟩ := hQ42
  have N42 := Fr.app N35 N42q
  have sf43 := (c_K35.safe (((C9.wr W10).keep K21).keep K28).lt sf36)
  have O_K42 : Old Z n0 T42.heap := O_K35.keep K42 (allS g12 all0)
  have c_K42 := CHr.keep K42 (allS sf43 all0) C_K35.1
  have C_K42 := C_K35.trans c_K42
  have f45 := (f38.keep K42 (ninS ne16 nin0))
  obtain ⟨cl44, Ar44, _, S44, _, H44, _⟩ := id f45
  have hin44 : ¬ ((4:Int32) < 0 ∨ cl44.slots.size ≤ ((4:Int32)).toNatClampNeg) := inb_of S44 ⟨by decide, by decide⟩
  have f46 := (f39.keep1 (ow hw 10 rfl) K42 f35_1)
  have f47 := (f40.keep K42)
  obtain ⟨T49, _, _, X49, hQ49, st49⟩ := cS X42 hx hZ8 hw hown8 (y := y26) 107 rfl 108 rfl 3 rfl 109 rfl (by decide) (W := 0) (own_step l Z a0 hw [] b8_0 b9 k9 (own_sp [(own_pk i0 i1 (0:Int32)), (own_pk i0 i1 (1:Int32)), (own_pk i0 i1 (2:Int32)), (own_pk i0 i1 (3:Int32)), (own_pk i0 i1 (4:Int32))]) (own_nf (own_nf (own_nf (own_nf (0:Int32) (own_pk i0 i1 (0:Int32))) (own_pk i0 i1 (1:Int32))) (own_pk i0 i1 (2:Int32))) (own_pk i0 i1 (3:Int32))) (own_no (own_no (own_no (own_no (0:Int32) (own_pk i0 i1 (0:Int32))) (own_pk i0 i1 (1:Int32))) (own_pk i0 i1 (2:Int32))) (own_pk i0 i1 (3:Int32))) (own_pk i0 i1 (4:Int32)) zCOMPACT_STRINGS vF T42.heap n0 O_K42 f42_1 f46 B0 B1 (own_gsp ⟨Nat.le_of_ble_eq_true rfl, (own_allS (own_pkb _ _ _) (own_allS (own_pkb _ _ _) (own_allS (own_pkb _ _ _) (own_allS (own_pkb _ _ _) (own_allS (own_pkb _ _ _) own_all0)))))⟩) g12 f47 B2 B3 hc48) (by decide) (by decide) rfl (g := (mkF m 182 #[iv i0, .val (.long i1), .second, iv (5:Int32), rv b1_0, rv b3_0, rv b8_0, rv b9, un] [(.int (own_pk i0 i1 (4:Int32))), (.ref b9), (.ref b8_0)])) rfl (by rw [hml]; rfl) (argsL := [(.ref b8_0), (.ref b9), (.int (own_pk i0 i1 (4:Int32)))]) (rest := []) (lenOf pd2 rfl) rfl wf (hb hby at_182) rfl (by decide) (by decide)
  obtain ⟨rfl, N49q, K49, f49_1⟩ := hQ49
  have N49 := Fr.app N42 N49q
  have sf50 := (c_K42.safe ((((C9.wr W10).keep K21).keep K28).keep K35).lt sf43)
  have O_K49 : Old Z n0 T49.heap := O_K42.keep K49 (allS g12 all0)
  have c_K49 := CHr.keep K49 (allS sf50 all0) C_K42.1
  have C_K49 := C_K42.trans c_K49
  obtain ⟨cl51, Ar51, _, S51, _, H51, _⟩ := id f49_1
  have hin51 : ¬ ((0:Int32) < 0 ∨ cl51.slots.size ≤ ((0:Int32)).toNatClampNeg) := inb_of S51 ⟨by decide, by decide⟩
  obtain ⟨cl52, Ar52, _, S52, _, H52, _⟩ := id f49_1
  have hin52 : ¬ ((2:Int32) < 0 ∨ cl52.slots.size ≤ ((2:Int32)).toNatClampNeg) := inb_of S52 ⟨by decide, by decide⟩
  have f54 := (f46.keep1 (ow hw 10 rfl) K49 f42_1)
  obtain ⟨_, Sx56, st56⟩ := own_rget X49 hx hZ8 f54 rfl hc57 (g := (mkF m 229 #[iv i0, .val (.long i1), .second, iv (5:Int32), rv b1_0, rv b3_0, rv b8_0, rv b9, iv (own_nf (own_nf (own_nf (own_nf (own_nf (0:Int32) (own_pk i0 i1 (0:Int32))) (own_pk i0 i1 (1:Int32))) (own_pk i0 i1 (2:Int32))) (own_pk i0 i1 (3:Int32))) (own_pk i0 i1 (4:Int32)))] [(.int (own_nf (own_nf (own_nf (own_nf (own_nf (0:Int32) (own_pk i0 i1 (0:Int32))) (own_pk i0 i1 (1:Int32))) (own_pk i0 i1 (2:Int32))) (own_pk i0 i1 (3:Int32))) (own_pk i0 i1 (4:Int32)))), (.ref b8_0)])) rfl rfl (hb hby at_229)
  obtain ⟨_, _, _, _, _, _⟩ := Sx56
  obtain ⟨a58, Sx58, st58⟩ := own_rget X49 hx hZ8 f54 rfl hc57 (g := (mkF m 237 #[iv i0, .val (.long i1), .second, iv (5:Int32), rv b1_0, rv b3_0, rv b8_0, rv b9, iv (own_nf (own_nf (own_nf (own_nf (own_nf (0:Int32) (own_pk i0 i1 (0:Int32))) (own_pk i0 i1 (1:Int32))) (own_pk i0 i1 (2:Int32))) (own_pk i0 i1 (3:Int32))) (own_pk i0 i1 (4:Int32)))] [(.int (own_nf (own_nf (own_nf (own_nf (own_nf (0:Int32) (own_pk i0 i1 (0:Int32))) (own_pk i0 i1 (1:Int32))) (own_pk i0 i1 (2:Int32))) (own_pk i0 i1 (3:Int32))) (own_pk i0 i1 (4:Int32)))), (.ref b8_0)])) rfl rfl (hb hby at_237)
  obtain ⟨_, _, Ea58, Fv58, Fc58, Av58⟩ := Sx58
  obtain ⟨_, _, q59a, _, q59c⟩ := isOf hZ8 rfl Ea58
  obtain ⟨_, _, _, X59, hQ59, st59⟩ := fl X49 (X49.virtualBack hx (y := y8) (z := y8) hown8 (mo hZ8 hw 87 rfl) (mo hZ8 hw 42 rfl) (notFace_of_selects (args := #[]) (mo hZ8 hw 44 rfl)) (mo hZ8 hw 44 rfl) (mo hZ8 hw 43 rfl) (by decide) (own_lenB (W := 0) n0 hZ8 hw (ow hw 10 rfl) Ea58 Fv58 Fc58 Av58 (own_gtn (own_gsp ⟨Nat.le_of_ble_eq_true rfl, (own_allS (own_pkb _ _ _) (own_allS (own_pkb _ _ _) (own_allS (own_pkb _ _ _) (own_allS (own_pkb _ _ _) (own_allS (own_pkb _ _ _) own_all0)))))⟩) _) (B0.ext O_K49.2) B1 (by decide) (by decide)) q59a q59c (g := (mkF m 238 #[iv i0, .val (.long i1), .second, iv (5:Int32), rv b1_0, rv b3_0, rv b8_0, rv b9, iv (own_nf (own_nf (own_nf (own_nf (own_nf (0:Int32) (own_pk i0 i1 (0:Int32))) (own_pk i0 i1 (1:Int32))) (own_pk i0 i1 (2:Int32))) (own_pk i0 i1 (3:Int32))) (own_pk i0 i1 (4:Int32)))] [(.ref a58)])) rfl (by rw [hml]; rfl) (Steps.refl _) (argsL := []) (rest := []) (lenOf pd23 rfl) rfl wf (hb hby at_238) (fun _ _ => ⟨rfl, rfl, (by decide : 20 + 0 ≤ _), (by decide : 100 + 0 ≤ _)⟩))
  obtain ⟨rfl, N59q, e59⟩ := hQ59
  have N59 := Fr.app N49 N59q
  obtain ⟨cl60, Ar60, _, S60, _, H60, _⟩ := id f49_1
  have hin60 : ¬ ((1:Int32) < 0 ∨ cl60.slots.size ≤ ((1:Int32)).toNatClampNeg) := inb_of S60 ⟨by decide, by decide⟩
  refine finH (Q := lawQ n0) (rm := room_1) (vm := T8.vm) Bd X59 hZ8 (own_EW hw) C_K49 hh e59 hS8 (Nat.le_trans (Nat.le_trans (Nat.le_trans (Nat.le_trans (Nat.le_trans (Nat.le_trans (Nat.le_trans (Nat.le_refl _) E9.1) (Keep.of_wr W10).1) K21.1) K28.1) K35.1) K42.1) K49.1) (some (.int (1:Int32))) nofun ⟨rfl, N59⟩ (by decide) (by decide) fun fs hr => ?_
  show St p e below s₁ m 0 #[iv i0, .val (.long i1), .second, un, un, un, un, un, un] [] _
  refine iN X0 hx hby at_0 rfl ?_
  refine XS.bipush X0.here hx rfl (hb hby at_1) ?_
  refine XS.iushr X0.here hx rfl (hb hby at_3) rfl ?_
  refine XS.bipush X0.here hx rfl (hb hby at_4) ?_
  refine Jvm.RoadKit.iremM (g := (mkF m 6 #[iv i0, .val (.long i1), .second, un, un, un, un, un, un] [(.int (7:Int32)), (.int ((i0.toUInt32 >>> ((6:Int32) &&& 31).toUInt32).toInt32))])) X0 hx rfl (hb hby at_6) rfl (by decide : ¬ ((7:Int32) = (0:Int32))) ?_
  show St p e below s₁ m 7 #[iv i0, .val (.long i1), .second, un, un, un, un, un, un] [(.int (((i0.toUInt32 >>> ((6:Int32) &&& 31).toUInt32).toInt32) % (7:Int32)))] _
  rw [pin0]
  refine XS.istoreN X0.here hx rfl (hb hby at_7) rfl (l' := #[iv i0, .val (.long i1), .second, iv (5:Int32), un, un, un, un, un]) rfl ?_
  refine st1 _ ?_
  refine aL X1 hx hby at_74 rfl rfl ?_
  refine iN X1 hx hby at_76 rfl ?_
  refine st3.trans ?_
  refine XS.astore Y3.here hx rfl (hb hby at_80) rfl rfl (l' := #[iv i0, .val (.long i1), .second, iv (5:Int32), rv b1_0, rv b3_0, un, un, un]) rfl ?_
  refine aL Y3 hx hby at_82 rfl rfl ?_
  refine st8.trans ?_
  refine XS.astore Y8.here hx rfl (hb hby at_87) rfl rfl (l' := #[iv i0, .val (.long i1), .second, iv (5:Int32), rv b1_0, rv b3_0, rv b8_0, un, un]) rfl ?_
  refine aL Y8 hx hby at_89 rfl rfl ?_
  refine XS.ifnonnullYes Y8.here hx rfl (pc0 := 91) (pc' := 96) rfl (hb hby at_91) rfl (by decide) (by decide) ?_
  refine iC Y8 hx hby at_96 ?_
  refine st9 _ ?_
  refine XS.astore X9.here hx rfl (hb hby at_99) rfl rfl (l' := #[iv i0, .val (.long i1), .second, iv (5:Int32), rv b1_0, rv b3_0, rv b8_0, rv b9, un]) rfl ?_
  refine aL X9 hx hby at_101 rfl rfl ?_
  refine iC X9 hx hby at_103 ?_
  refine iC X9 hx hby at_104 ?_
  refine st10 _ ?_
  refine iN X10 hx hby at_106 rfl ?_
  refine XS.ifNo X10.here hx rfl (hb hby at_107) rfl ((if0 _ _).trans (tlt (by decide : (0:Int32) < (5:Int32))).2.2.2) ?_
  show St p e below T10 m 110 #[iv i0, .val (.long i1), .second, iv (5:Int32), rv b1_0, rv b3_0, rv b8_0, rv b9, un] [] _
  refine aL X10 hx hby at_110 rfl rfl ?_
  refine aL X10 hx hby at_112 rfl rfl ?_
  refine aL X10 hx hby at_114 rfl rfl ?_
  refine iC X10 hx hby at_116 ?_
  refine X10.caload hx (j := (0:Int32)) (v := (.int (own_pk i0 i1 (0:Int32)))) (by rw [e10]; exact Ar15.1) (State.isArrayOf_alike hZ8.alike Ar15.2.1) Ar15.2.2 hin15 (Has.at H15 hin15 rfl) (g := (mkF m 117 #[iv i0, .val (.long i1), .second, iv (5:Int32), rv b1_0, rv b3_0, rv b8_0, rv b9, un] [(.int (0:Int32)), (.ref b1_0), (.ref b9), (.ref b8_0)])) rfl rfl (hb hby at_117) _ ?_
  refine st21 _ ?_
  refine iN X21 hx hby at_121 rfl ?_
  refine iC X21 hx hby at_122 ?_
  refine XS.icmpNo X21.here hx rfl (hb hby at_123) rfl (tlt (by decide : (1:Int32) < (5:Int32))).2.2.2 ?_
  refine aL X21 hx hby at_126 rfl rfl ?_
  refine aL X21 hx hby at_128 rfl rfl ?_
  refine aL X21 hx hby at_130 rfl rfl ?_
  refine iC X21 hx hby at_132 ?_
  refine X21.caload hx (j := (1:Int32)) (v := (.int (own_pk i0 i1 (1:Int32)))) Ar23.1 (State.isArrayOf_alike hZ8.alike Ar23.2.1) Ar23.2.2 hin23 (Has.at H23 hin23 rfl) (g := (mkF m 133 #[iv i0, .val (.long i1), .second, iv (5:Int32), rv b1_0, rv b3_0, rv b8_0, rv b9, un] [(.int (1:Int32)), (.ref b1_0), (.ref b9), (.ref b8_0)])) rfl rfl (hb hby at_133) _ ?_
  refine st28 _ ?_
  refine iN X28 hx hby at_137 rfl ?_
  refine iC X28 hx hby at_138 ?_
  refine XS.icmpNo X28.here hx rfl (hb hby at_139) rfl (tlt (by decide : (2:Int32) < (5:Int32))).2.2.2 ?_
  refine aL X28 hx hby at_142 rfl rfl ?_
  refine aL X28 hx hby at_144 rfl rfl ?_
  refine aL X28 hx hby at_146 rfl rfl ?_
  refine iC X28 hx hby at_148 ?_
  refine X28.caload hx (j := (2:Int32)) (v := (.int (own_pk i0 i1 (2:Int32)))) Ar30.1 (State.isArrayOf_alike hZ8.alike Ar30.2.1) Ar30.2.2 hin30 (Has.at H30 hin30 rfl) (g := (mkF m 149 #[iv i0, .val (.long i1), .second, iv (5:Int32), rv b1_0, rv b3_0, rv b8_0, rv b9, un] [(.int (2:Int32)), (.ref b1_0), (.ref b9), (.ref b8_0)])) rfl rfl (hb hby at_149) _ ?_
  refine st35 _ ?_
  refine iN X35 hx hby at_153 rfl ?_
  show St p e below T35 m 154 #[iv i0, .val (.long i1), .second, iv (5:Int32), rv b1_0, rv b3_0, rv b8_0, rv b9, un] [(.int (5:Int32))] _
  refine iC X35 hx hby at_154 ?_
  refine XS.icmpNo X35.here hx rfl (hb hby at_155) rfl (tlt (by decide : (3:Int32) < (5:Int32))).2.2.2 ?_
  refine aL X35 hx hby at_158 rfl rfl ?_
  refine aL X35 hx hby at_160 rfl rfl ?_
  refine aL X35 hx hby at_162 rfl rfl ?_
  refine iC X35 hx hby at_164 ?_
  refine X35.caload hx (j := (3:Int32)) (v := (.int (own_pk i0 i1 (3:Int32)))) Ar37.1 (State.isArrayOf_alike hZ8.alike Ar37.2.1) Ar37.2.2 hin37 (Has.at H37 hin37 rfl) (g := (mkF m 165 #[iv i0, .val (.long i1), .second, iv (5:Int32), rv b1_0, rv b3_0, rv b8_0, rv b9, un] [(.int (3:Int32)), (.ref b1_0), (.ref b9), (.ref b8_0)])) rfl rfl (hb hby at_165) _ ?_
  refine st42 _ ?_
  refine iN X42 hx hby at_169 rfl ?_
  refine iC X42 hx hby at_170 ?_
  refine XS.icmpNo X42.here hx rfl (hb hby at_171) rfl (tlt (by decide : (4:Int32) < (5:Int32))).2.2.2 ?_
  refine aL X42 hx hby at_174 rfl rfl ?_
  refine aL X42 hx hby at_176 rfl rfl ?_
  refine aL X42 hx hby at_178 rfl rfl ?_
  refine iC X42 hx hby at_180 ?_
  refine X42.caload hx (j := (4:Int32)) (v := (.int (own_pk i0 i1 (4:Int32)))) Ar44.1 (State.isArrayOf_alike hZ8.alike Ar44.2.1) Ar44.2.2 hin44 (Has.at H44 hin44 rfl) (g := (mkF m 181 #[iv i0, .val (.long i1), .second, iv (5:Int32), rv b1_0, rv b3_0, rv b8_0, rv b9, un] [(.int (4:Int32)), (.ref b1_0), (.ref b9), (.ref b8_0)])) rfl rfl (hb hby at_181) _ ?_
  refine st49 _ ?_
  refine iN X49 hx hby at_185 rfl ?_
  refine iC X49 hx hby at_186 ?_
  refine XS.icmpYes X49.here hx rfl (pc0 := 187) (pc' := 201) rfl (hb hby at_187) rfl (flt (by decide : ¬ ((5:Int32) < (5:Int32)))).2.2.2 (by decide) (by decide) ?_
  refine aL X49 hx hby at_201 rfl rfl ?_
  refine iC X49 hx hby at_203 ?_
  refine X49.iaload hx (j := (0:Int32)) (v := (.int (own_nf (own_nf (own_nf (own_nf (own_nf (0:Int32) (own_pk i0 i1 (0:Int32))) (own_pk i0 i1 (1:Int32))) (own_pk i0 i1 (2:Int32))) (own_pk i0 i1 (3:Int32))) (own_pk i0 i1 (4:Int32))))) Ar51.1 (State.isArrayOf_alike hZ8.alike Ar51.2.1) Ar51.2.2 hin51 (Has.at H51 hin51 rfl) (g := (mkF m 204 #[iv i0, .val (.long i1), .second, iv (5:Int32), rv b1_0, rv b3_0, rv b8_0, rv b9, un] [(.int (0:Int32)), (.ref b9)])) rfl rfl (hb hby at_204) _ ?_
  refine XS.istore X49.here hx rfl (hb hby at_205) rfl (l' := #[iv i0, .val (.long i1), .second, iv (5:Int32), rv b1_0, rv b3_0, rv b8_0, rv b9, iv (own_nf (own_nf (own_nf (own_nf (own_nf (0:Int32) (own_pk i0 i1 (0:Int32))) (own_pk i0 i1 (1:Int32))) (own_pk i0 i1 (2:Int32))) (own_pk i0 i1 (3:Int32))) (own_pk i0 i1 (4:Int32)))]) rfl ?_
  refine aL X49 hx hby at_207 rfl rfl ?_
  show St p e below T49 m 209 #[iv i0, .val (.long i1), .second, iv (5:Int32), rv b1_0, rv b3_0, rv b8_0, rv b9, iv (own_nf (own_nf (own_nf (own_nf (own_nf (0:Int32) (own_pk i0 i1 (0:Int32))) (own_pk i0 i1 (1:Int32))) (own_pk i0 i1 (2:Int32))) (own_pk i0 i1 (3:Int32))) (own_pk i0 i1 (4:Int32)))] [(.ref b9)] _
  refine iC X49 hx hby at_209 ?_
  refine X49.iaload hx (j := (2:Int32)) (v := (.int (1:Int32))) Ar52.1 (State.isArrayOf_alike hZ8.alike Ar52.2.1) Ar52.2.2 hin52 (Has.at H52 hin52 rfl) (g := (mkF m 210 #[iv i0, .val (.long i1), .second, iv (5:Int32), rv b1_0, rv b3_0, rv b8_0, rv b9, iv (own_nf (own_nf (own_nf (own_nf (own_nf (0:Int32) (own_pk i0 i1 (0:Int32))) (own_pk i0 i1 (1:Int32))) (own_pk i0 i1 (2:Int32))) (own_pk i0 i1 (3:Int32))) (own_pk i0 i1 (4:Int32)))] [(.int (2:Int32)), (.ref b9)])) rfl rfl (hb hby at_210) _ ?_
  refine iC X49 hx hby at_211 ?_
  refine XS.icmpNo X49.here hx rfl (hb hby at_212) rfl (teq (rfl : (1:Int32) = (1:Int32))).2 ?_
  refine iL X49 hx hby at_215 rfl ?_
  refine aL X49 hx hby at_217 rfl rfl ?_
  refine own_rlen X49 hx hZ8 f54 rfl (g := (mkF m 219 #[iv i0, .val (.long i1), .second, iv (5:Int32), rv b1_0, rv b3_0, rv b8_0, rv b9, iv (own_nf (own_nf (own_nf (own_nf (own_nf (0:Int32) (own_pk i0 i1 (0:Int32))) (own_pk i0 i1 (1:Int32))) (own_pk i0 i1 (2:Int32))) (own_pk i0 i1 (3:Int32))) (own_pk i0 i1 (4:Int32)))] [(.ref b8_0), (.int (own_nf (own_nf (own_nf (own_nf (own_nf (0:Int32) (own_pk i0 i1 (0:Int32))) (own_pk i0 i1 (1:Int32))) (own_pk i0 i1 (2:Int32))) (own_pk i0 i1 (3:Int32))) (own_pk i0 i1 (4:Int32))))])) rfl rfl (hb hby at_219) _ ?_
  refine iC X49 hx hby at_220 ?_
  refine XS.isub X49.here hx rfl (hb hby at_221) rfl ?_
  refine XS.icmpNo X49.here hx rfl (hb hby at_222) rfl (teq hc55).2 ?_
  refine aL X49 hx hby at_225 rfl rfl ?_
  refine iL X49 hx hby at_227 rfl ?_
  refine st56 _ ?_
  refine XS.ifnullNo X49.here hx rfl (hb hby at_230) rfl ?_
  refine aL X49 hx hby at_233 rfl rfl ?_
  refine iL X49 hx hby at_235 rfl ?_
  refine st58 _ ?_
  refine st59.trans ?_
  refine aL X59 hx hby at_241 rfl rfl ?_
  refine iC X59 hx hby at_243 ?_
  refine X59.iaload hx (j := (1:Int32)) (v := (.int (own_no (own_no (own_no (own_no (own_no (0:Int32) (own_pk i0 i1 (0:Int32))) (own_pk i0 i1 (1:Int32))) (own_pk i0 i1 (2:Int32))) (own_pk i0 i1 (3:Int32))) (own_pk i0 i1 (4:Int32))))) (by rw [e59]; exact Ar60.1) (State.isArrayOf_alike hZ8.alike Ar60.2.1) Ar60.2.2 hin60 (Has.at H60 hin60 rfl) (g := (mkF m 244 #[iv i0, .val (.long i1), .second, iv (5:Int32), rv b1_0, rv b3_0, rv b8_0, rv b9, iv (own_nf (own_nf (own_nf (own_nf (own_nf (0:Int32) (own_pk i0 i1 (0:Int32))) (own_pk i0 i1 (1:Int32))) (own_pk i0 i1 (2:Int32))) (own_pk i0 i1 (3:Int32))) (own_pk i0 i1 (4:Int32)))] [(.int (1:Int32)), (.ref b9), (.int (own_tn (own_nth (own_sp [(own_pk i0 i1 (0:Int32)), (own_pk i0 i1 (1:Int32)), (own_pk i0 i1 (2:Int32)), (own_pk i0 i1 (3:Int32)), (own_pk i0 i1 (4:Int32))]) (own_nf (own_nf (own_nf (own_nf (own_nf (0:Int32) (own_pk i0 i1 (0:Int32))) (own_pk i0 i1 (1:Int32))) (own_pk i0 i1 (2:Int32))) (own_pk i0 i1 (3:Int32))) (own_pk i0 i1 (4:Int32))))))])) rfl rfl (hb hby at_244) _ ?_
  refine XS.icmpNo X59.here hx rfl (hb hby at_245) rfl (teq hc61).2 ?_
  refine iC X59 hx hby at_248 ?_
  refine XS.goto X59.here hx rfl (pc0 := 249) (pc' := 253) rfl (hb hby at_249) (by decide) (by decide) ?_
  exact retN X59 hx (t := .boolean) Bd.returns (by simp) (hb hby at_253) hr
theorem d2_167 : dk method_4_code 167 (.new 28) 3 := by decide +kernel
theorem d2_170 : dk method_4_code 170 .dup 1 := by decide +kernel
theorem d2_171 : dk method_4_code 171 (.bipush 6) 2 := by decide +kernel
theorem d2_173 : dk method_4_code 173 (.newarray .char) 2 := by decide +kernel
theorem d2_175 : dk method_4_code 175 .dup 1 := by decide +kernel
theorem d2_176 : dk method_4_code 176 (.iconst 0) 1 := by decide +kernel
theorem d2_177 : dk method_4_code 177 (.aload_n 0) 1 := by decide +kernel
theorem d2_178 : dk method_4_code 178 (.iconst 0) 1 := by decide +kernel
theorem d2_179 : dk method_4_code 179 .caload 1 := by decide +kernel
theorem d2_180 : dk method_4_code 180 .castore 1 := by decide +kernel
theorem d2_181 : dk method_4_code 181 .dup 1 := by decide +kernel
theorem d2_182 : dk method_4_code 182 (.iconst 1) 1 := by decide +kernel
theorem d2_183 : dk method_4_code 183 (.aload_n 0) 1 := by decide +kernel
theorem d2_184 : dk method_4_code 184 (.iconst 1) 1 := by decide +kernel
theorem d2_185 : dk method_4_code 185 .caload 1 := by decide +kernel
theorem d2_186 : dk method_4_code 186 .castore 1 := by decide +kernel
theorem d2_187 : dk method_4_code 187 .dup 1 := by decide +kernel
theorem d2_188 : dk method_4_code 188 (.iconst 2) 1 := by decide +kernel
theorem d2_189 : dk method_4_code 189 (.aload_n 0) 1 := by decide +kernel
theorem d2_190 : dk method_4_code 190 (.iconst 2) 1 := by decide +kernel
theorem d2_191 : dk method_4_code 191 .caload 1 := by decide +kernel
theorem d2_192 : dk method_4_code 192 .castore 1 := by decide +kernel
theorem d2_193 : dk method_4_code 193 .dup 1 := by decide +kernel
theorem d2_194 : dk method_4_code 194 (.iconst 3) 1 := by decide +kernel
theorem d2_195 : dk method_4_code 195 (.aload_n 0) 1 := by decide +kernel
theorem d2_196 : dk method_4_code 196 (.iconst 3) 1 := by decide +kernel
theorem d2_197 : dk method_4_code 197 .caload 1 := by decide +kernel
theorem d2_198 : dk method_4_code 198 .castore 1 := by decide +kernel
theorem d2_199 : dk method_4_code 199 .dup 1 := by decide +kernel
theorem d2_200 : dk method_4_code 200 (.iconst 4) 1 := by decide +kernel
theorem d2_201 : dk method_4_code 201 (.aload_n 0) 1 := by decide +kernel
theorem d2_202 : dk method_4_code 202 (.iconst 4) 1 := by decide +kernel
theorem d2_203 : dk method_4_code 203 .caload 1 := by decide +kernel
theorem d2_204 : dk method_4_code 204 .castore 1 := by decide +kernel
theorem d2_205 : dk method_4_code 205 .dup 1 := by decide +kernel
theorem d2_206 : dk method_4_code 206 (.iconst 5) 1 := by decide +kernel
theorem d2_207 : dk method_4_code 207 (.aload_n 0) 1 := by decide +kernel
theorem d2_208 : dk method_4_code 208 (.iconst 5) 1 := by decide +kernel
theorem d2_209 : dk method_4_code 209 .caload 1 := by decide +kernel
theorem d2_210 : dk method_4_code 210 .castore 1 := by decide +kernel
theorem d2_211 : dk method_4_code 211 (.invokespecial 39) 3 := by decide +kernel
theorem d2_214 : dk method_4_code 214 .areturn 1 := by decide +kernel
def r2_7Q (Z : State) (a1 : Addr) (k2 : ClassId) (p3 p4 p5 p6 p7 p8 p58:Int32) (h0 : Heap) (n0 : Nat) : QT := fun v h L => own_strQ Z [p3, p4, p5, p6, p7, p8] h0 n0 v h L
theorem r2_7 (l : Launch) (Z : State) (a0 : Array Value) (hw : HW a0 Z) (ws : List Jvm.Cond) (a1 : Addr) (k2 : ClassId) (p3 p4 p5 p6 p7 p8 p58:Int32) (h0 : Heap) (n0 : Nat) (O0 : Old Z n0 h0) (H9 : Arv Z h0 a1 k2 .char (6:Int32) [(.int p3), (.int p4), (.int p5), (.int p6), (.int p7), (.int p8)] (.int (0:Int32))) (H20 : xE0 Z h0 a1) (H59 : Sta Z Z.heap "java/lang/String" "COMPACT_STRINGS" "Z" (.int p58)) (hc60 : ¬ (p58 = (0:Int32))) (hc61 : ¬ ((nar .char p8) < (0:Int32)) ∧ ¬ ((255:Int32) < (nar .char p8))) (hc62 : ¬ ((nar .char p7) < (0:Int32)) ∧ ¬ ((255:Int32) < (nar .char p7))) (hc63 : ¬ ((nar .char p6) < (0:Int32)) ∧ ¬ ((255:Int32) < (nar .char p6))) (hc64 : ¬ ((nar .char p5) < (0:Int32)) ∧ ¬ ((255:Int32) < (nar .char p5))) (hc65 : ¬ ((nar .char p4) < (0:Int32)) ∧ ¬ ((255:Int32) < (nar .char p4))) (hc66 : ¬ ((nar .char p3) < (0:Int32)) ∧ ¬ ((255:Int32) < (nar .char p3))) (H71 : nar .char p3 = p3) (H72 : nar .char p4 = p4) (H73 : nar .char p5 = p5) (H74 : nar .char p6 = p6) (H75 : nar .char p7 = p7) (H76 : nar .char p8 = p8) :
    MFH l y2 method_4_code 2 (some (.object "java/lang/String")) ws (rM 4 3 16 66) Z #[(.ref a1), (.int (6:Int32))] h0 (r2_7Q Z a1 k2 p3 p4 p5 p6 p7 p8 p58 h0 n0) := by
  refine own_inH (pq pn0) #[rv a1, iv (6:Int32)] (fun _ => by first | (simp [entryFrame, mkF, argsToLocals, Value.category]; done) | rfl) ?_
  intro p e s m below meth c s₁ Bd hx hby hml hown hnm hZ hh C0 e0 X0
  have N0 := Fr.nil n0
  obtain ⟨_, h10, X10, e10, E10, A10, D10, -, st10⟩ := newO X0 hx hZ hown (ow hw 130 rfl) (ow hw 10 rfl) (ow hw 9 rfl) e0 (g := (mkF m 167 #[rv a1, iv (6:Int32)] [])) rfl (hb hby d2_167) (by decide) (by decide)
  obtain ⟨b10, g10⟩ : ∃ z, z = h0.size := ⟨_, rfl⟩
  rw [← g10] at A10 D10 st10
  have O_E10 : Old Z n0 h10 := O0.ext E10
  have Kp_E10 : Keep h0 h10 [] := (Keep.refl h0 []).ext E10
  have c_E10 := CHr.ext E10 C0.1
  have C_E10 := C0.trans c_E10
  obtain ⟨T11, h11, k11, X11, e11, E11, A11, C11, st11⟩ := newPE X10 hx hZ (aty := .char) (ow hw 0 rfl) e10 (g := (mkF m 173 #[rv a1, iv (6:Int32)] [(.int (6:Int32)), (.ref b10), (.ref b10)])) rfl (hb hby d2_173) rfl (by decide) (cap := 6) (by decide) (by decide) (by decide) (by decide) (ad := "[C") (by decide)
  obtain ⟨b11, g11⟩ : ∃ z, z = h10.size := ⟨_, rfl⟩
  rw [← g11] at A11 C11 st11
  have O_E11 : Old Z n0 h11 := O_E10.ext E11
  have Kp_E11 : Keep h0 h11 [] := Kp_E10.ext E11
  have c_E11 := CHr.ext E11 C_E10.1
  have C_E11 := C_E10.trans c_E11
  have V11 : Arv Z h11 b11 k11 .char (6:Int32) [(.int (0:Int32)), (.int (0:Int32)), (.int (0:Int32)), (.int (0:Int32)), (.int (0:Int32)), (.int (0:Int32))] (.int (0:Int32)) := (Arv.new A11 (by decide)).pad (pad_rep [] (.int (0:Int32)) 6)
  have f13 := ((H9.ext E10).ext E11)
  obtain ⟨cl12, Ar12, _, S12, _, H12, _⟩ := id f13
  have hin12 : ¬ ((0:Int32) < 0 ∨ cl12.slots.size ≤ ((0:Int32)).toNatClampNeg) := inb_of S12 ⟨by decide, by decide⟩
  obtain ⟨cl14, Ar14, q14, S14, M14, H14, G14⟩ := id V11
  have hin14 : ¬ ((0:Int32) < 0 ∨ cl14.slots.size ≤ ((0:Int32)).toNatClampNeg) := inb_of S14 ⟨by decide, by decide⟩
  obtain ⟨_, h14, X14, e14, W14, st14⟩ := stC X11 hx hZ e11 Ar14 (j := (0:Int32)) hin14 (g := (mkF m 180 #[rv a1, iv (6:Int32)] [(.int p3), (.int (0:Int32)), (.ref b11), (.ref b11), (.ref b10), (.ref b10)])) rfl rfl (hb hby d2_180)
  have g16 : n0 ≤ b11 := Nat.le_trans (Nat.le_trans (Nat.le_of_eq O_E10.1.symm) O_E10.2.1) (Nat.le_of_eq g11.symm)
  have z17 : h0.size ≤ b11 := Nat.le_trans Kp_E10.1 (Nat.le_of_eq g11.symm)
  have O_W14 : Old Z n0 h14 := O_E11.wr W14 g16
  have Kp_W14 : Keep h0 h14 [] := Kp_E11.wr W14 (Or.inr z17)
  have c_W14 := CHr.wr W14 (Safe.ext E11 C_E10.1 (Safe.new (Nat.le_of_eq g11.symm))) C_E11.1
  have C_W14 := C_E11.trans c_W14
  have N18 := Fr.snoc X14 N0 g16
  have f15 : Arv Z h14 b11 k11 .char (6:Int32) [(.int (nar .char p3)), (.int (0:Int32)), (.int (0:Int32)), (.int (0:Int32)), (.int (0:Int32)), (.int (0:Int32))] (.int (0:Int32)) := Arv.set Ar14 q14 S14 M14 H14 G14 (fits_nar_char _) W14 0 rfl (Nat.le_of_ble_eq_true rfl)
  have ne22 : a1 ≠ b11 := Nat.ne_of_lt (Nat.lt_of_lt_of_le (H20.ext E10).lt (Nat.le_of_eq g11.symm))
  have f23 := (f13.other W14 ne22)
  obtain ⟨cl19, Ar19, _, S19, _, H19, _⟩ := id f23
  have hin19 : ¬ ((1:Int32) < 0 ∨ cl19.slots.size ≤ ((1:Int32)).toNatClampNeg) := inb_of S19 ⟨by decide, by decide⟩
  obtain ⟨cl24, Ar24, q24, S24, M24, H24, G24⟩ := id f15
  have hin24 : ¬ ((1:Int32) < 0 ∨ cl24.slots.size ≤ ((1:Int32)).toNatClampNeg) := inb_of S24 ⟨by decide, by decide⟩
  obtain ⟨_, h24, X24, e24, W24, st24⟩ := stC X14 hx hZ e14 Ar24 (j := (1:Int32)) hin24 (g := (mkF m 186 #[rv a1, iv (6:Int32)] [(.int p4), (.int (1:Int32)), (.ref b11), (.ref b11), (.ref b10), (.ref b10)])) rfl rfl (hb hby d2_186)
  have sf26 := (c_W14.safe C11.lt (Safe.ext E11 C_E10.1 (Safe.new (Nat.le_of_eq g11.symm))))
  have O_W24 : Old Z n0 h24 := O_W14.wr W24 g16
  have Kp_W24 : Keep h0 h24 [] := Kp_W14.wr W24 (Or.inr z17)
  have c_W24 := CHr.wr W24 sf26 C_W14.1
  have C_W24 := C_W14.trans c_W24
  have N27 := Fr.snoc X24 N18 g16
  have f25 : Arv Z h24 b11 k11 .char (6:Int32) [(.int (nar .char p3)), (.int (nar .char p4)), (.int (0:Int32)), (.int (0:Int32)), (.int (0:Int32)), (.int (0:Int32))] (.int (0:Int32)) := Arv.set Ar24 q24 S24 M24 H24 G24 (fits_nar_char _) W24 1 rfl (Nat.le_of_ble_eq_true rfl)
  have f29 := (f23.other W24 ne22)
  obtain ⟨cl28, Ar28, _, S28, _, H28, _⟩ := id f29
  have hin28 : ¬ ((2:Int32) < 0 ∨ cl28.slots.size ≤ ((2:Int32)).toNatClampNeg) := inb_of S28 ⟨by decide, by decide⟩
  obtain ⟨cl30, Ar30, q30, S30, M30, H30, G30⟩ := id f25
  have hin30 : ¬ ((2:Int32) < 0 ∨ cl30.slots.size ≤ ((2:Int32)).toNatClampNeg) := inb_of S30 ⟨by decide, by decide⟩
  obtain ⟨_, h30, X30, e30, W30, st30⟩ := stC X24 hx hZ e24 Ar30 (j := (2:Int32)) hin30 (g := (mkF m 192 #[rv a1, iv (6:Int32)] [(.int p5), (.int (2:Int32)), (.ref b11), (.ref b11), (.ref b10), (.ref b10)])) rfl rfl (hb hby d2_192)
  have sf32 := (c_W24.safe (C11.wr W14).lt sf26)
  have O_W30 : Old Z n0 h30 := O_W24.wr W30 g16
  have Kp_W30 : Keep h0 h30 [] := Kp_W24.wr W30 (Or.inr z17)
  have c_W30 := CHr.wr W30 sf32 C_W24.1
  have C_W30 := C_W24.trans c_W30
  have N33 := Fr.snoc X30 N27 g16
  have f31 : Arv Z h30 b11 k11 .char (6:Int32) [(.int (nar .char p3)), (.int (nar .char p4)), (.int (nar .char p5)), (.int (0:Int32)), (.int (0:Int32)), (.int (0:Int32))] (.int (0:Int32)) := Arv.set Ar30 q30 S30 M30 H30 G30 (fits_nar_char _) W30 2 rfl (Nat.le_of_ble_eq_true rfl)
  have f35 := (f29.other W30 ne22)
  obtain ⟨cl34, Ar34, _, S34, _, H34, _⟩ := id f35
  have hin34 : ¬ ((3:Int32) < 0 ∨ cl34.slots.size ≤ ((3:Int32)).toNatClampNeg) := inb_of S34 ⟨by decide, by decide⟩
  obtain ⟨cl36, Ar36, q36, S36, M36, H36, G36⟩ := id f31
  have hin36 : ¬ ((3:Int32) < 0 ∨ cl36.slots.size ≤ ((3:Int32)).toNatClampNeg) := inb_of S36 ⟨by decide, by decide⟩
  obtain ⟨T36, h36, X36, e36, W36, st36⟩ := stC X30 hx hZ e30 Ar36 (j := (3:Int32)) hin36 (g := (mkF m 198 #[rv a1, iv (6:Int32)] [(.int p6), (.int (3:Int32)), (.ref b11), (.ref b11), (.ref b10), (.ref b10)])) rfl rfl (hb hby d2_198)
  have sf38 := (c_W30.safe ((C11.wr W14).wr W24).lt sf32)
  have O_W36 : Old Z n0 h36 := O_W30.wr W36 g16
  have Kp_W36 : Keep h0 h36 [] := Kp_W30.wr W36 (Or.inr z17)
  have c_W36 := CHr.wr W36 sf38 C_W30.1
  have C_W36 := C_W30.trans c_W36
  have N39 := Fr.snoc X36 N33 g16
  have f37 : Arv Z h36 b11 k11 .char (6:Int32) [(.int (nar .char p3)), (.int (nar .char p4)), (.int (nar .char p5)), (.int (nar .char p6)), (.int (0:Int32)), (.int (0:Int32))] (.int (0:Int32)) := Arv.set Ar36 q36 S36 M36 H36 G36 (fits_nar_char _) W36 3 rfl (Nat.le_of_ble_eq_true rfl)
  have f41 := (f35.other W36 ne22)
  obtain ⟨cl40, Ar40, _, S40, _, H40, _⟩ := id f41
  have hin40 : ¬ ((4:Int32) < 0 ∨ cl40.slots.size ≤ ((4:Int32)).toNatClampNeg) := inb_of S40 ⟨by decide, by decide⟩
  obtain ⟨cl42, Ar42, q42, S42, M42, H42, G42⟩ := id f37
  have hin42 : ¬ ((4:Int32) < 0 ∨ cl42.slots.size ≤ ((4:Int32)).toNatClampNeg) := inb_of S42 ⟨by decide, by decide⟩
  obtain ⟨_, h42, X42, e42, W42, st42⟩ := stC X36 hx hZ e36 Ar42 (j := (4:Int32)) hin42 (g := (mkF m 204 #[rv a1, iv (6:Int32)] [(.int p7), (.int (4:Int32)), (.ref b11), (.ref b11), (.ref b10), (.ref b10)])) rfl rfl (hb hby d2_204)
  have sf44 := (c_W36.safe (((C11.wr W14).wr W24).wr W30).lt sf38)
  have O_W42 : Old Z n0 h42 := O_W36.wr W42 g16
  have Kp_W42 : Keep h0 h42 [] := Kp_W36.wr W42 (Or.inr z17)
  have c_W42 := CHr.wr W42 sf44 C_W36.1
  have C_W42 := C_W36.trans c_W42
  have N45 := Fr.snoc X42 N39 g16
  have f43 : Arv Z h42 b11 k11 .char (6:Int32) [(.int (nar .char p3)), (.int (nar .char p4)), (.int (nar .char p5)), (.int (nar .char p6)), (.int (nar .char p7)), (.int (0:Int32))] (.int (0:Int32)) := Arv.set Ar42 q42 S42 M42 H42 G42 (fits_nar_char _) W42 4 rfl (Nat.le_of_ble_eq_true rfl)
  have f47 := (f41.other W42 ne22)
  obtain ⟨cl46, Ar46, _, S46, _, H46, _⟩ := id f47
  have hin46 : ¬ ((5:Int32) < 0 ∨ cl46.slots.size ≤ ((5:Int32)).toNatClampNeg) := inb_of S46 ⟨by decide, by decide⟩
  obtain ⟨cl48, Ar48, q48, S48, M48, H48, G48⟩ := id f43
  have hin48 : ¬ ((5:Int32) < 0 ∨ cl48.slots.size ≤ ((5:Int32)).toNatClampNeg) := inb_of S48 ⟨by decide, by decide⟩
  obtain ⟨_, h48, X48, e48, W48, st48⟩ := stC X42 hx hZ e42 Ar48 (j := (5:Int32)) hin48 (g := (mkF m 210 #[rv a1, iv (6:Int32)] [(.int p8), (.int (5:Int32)), (.ref b11), (.ref b11), (.ref b10), (.ref b10)])) rfl rfl (hb hby d2_210)
  have sf50 := (c_W42.safe ((((C11.wr W14).wr W24).wr W30).wr W36).lt sf44)
  have O_W48 : Old Z n0 h48 := O_W42.wr W48 g16
  have Kp_W48 : Keep h0 h48 [] := Kp_W42.wr W48 (Or.inr z17)
  have c_W48 := CHr.wr W48 sf50 C_W42.1
  have C_W48 := C_W42.trans c_W48
  have N51 := Fr.snoc X48 N45 g16
  have f49 : Arv Z h48 b11 k11 .char (6:Int32) [(.int (nar .char p3)), (.int (nar .char p4)), (.int (nar .char p5)), (.int (nar .char p6)), (.int (nar .char p7)), (.int (nar .char p8))] (.int (0:Int32)) := Arv.set Ar48 q48 S48 M48 H48 G48 (fits_nar_char _) W48 5 rfl (Nat.le_of_ble_eq_true rfl)
  have f52 := (((((((A10.ext E11).wr W14).wr W24).wr W30).wr W36).wr W42).wr W48)
  have f53 : xF3 Z h10 b10 .null := D10 (Or.inr (ow hw 12 rfl)) (ty := (.array .byte)) (by decide)
  have ne54 : b10 ≠ b11 := Nat.ne_of_lt (Nat.lt_of_lt_of_le A10.lt (Nat.le_of_eq g11.symm))
  have f55 := (((((((f53.ext E11).other W14 (Or.inl ne54)).other W24 (Or.inl ne54)).other W30 (Or.inl ne54)).other W36 (Or.inl ne54)).other W42 (Or.inl ne54)).other W48 (Or.inl ne54))
  have f56 : xF2 Z h10 b10 (.int (0:Int32)) := D10 (Or.inr (ow hw 13 rfl)) (ty := .byte) (by decide)
  have f57 := (((((((f56.ext E11).other W14 (Or.inl ne54)).other W24 (Or.inl ne54)).other W30 (Or.inl ne54)).other W36 (Or.inl ne54)).other W42 (Or.inl ne54)).other W48 (Or.inl ne54))
  have g67 : n0 ≤ b10 := Nat.le_trans (Nat.le_trans (Nat.le_of_eq O0.1.symm) O0.2.1) (Nat.le_of_eq g10.symm)
  obtain ⟨T68, _, _, X68, hQ68, st68⟩ := fl X48 (X48.specialBack hx (y := y28) rfl hown (mo hZ hw 131 rfl) (mo hZ hw 132 rfl) (mo hZ hw 133 rfl) (by decide) (own_newB (W := 1) (cs := [(nar .char p3), (nar .char p4), (nar .char p5), (nar .char p6), (nar .char p7), (nar .char p8)]) (nn := 6) rfl (Nat.le_trans (Nat.le_of_eq O_W48.1.symm) O_W48.2.1) g67 hZ hw (ow hw 10 rfl) f52 f55 f57 f49 (H59.ext O_W48.2) hc60 rfl (Nat.le_of_ble_eq_true rfl) (Nat.le_of_ble_eq_true rfl) (own_allS hc66 (own_allS hc65 (own_allS hc64 (own_allS hc63 (own_allS hc62 (own_allS hc61 own_all0)))))) (by decide) (by decide)) (g := (mkF m 211 #[rv a1, iv (6:Int32)] [(.ref b11), (.ref b10), (.ref b10)])) rfl (by rw [hml]; rfl) (Steps.refl _) (a := b10) (argsL := [(.ref b11)]) (rest := [(.ref b10)]) (lenOf pd17 rfl) rfl wf (hb hby d2_211) (fun _ _ => ⟨rfl, e48, (by decide : 2 + 1 ≤ _), (by decide : 10 + 6 ≤ _)⟩))
  obtain ⟨b68_0, k68_0, rfl, N68q, K68, _, f68_2, f68_3, f68_4, f68_5⟩ := hQ68
  have N68 := Fr.app N51 N68q
  have sf69 := (c_W48.safe ((((((A10.ext E11).wr W14).wr W24).wr W30).wr W36).wr W42).lt (c_W42.safe (((((A10.ext E11).wr W14).wr W24).wr W30).wr W36).lt (c_W36.safe ((((A10.ext E11).wr W14).wr W24).wr W30).lt (c_W30.safe (((A10.ext E11).wr W14).wr W24).lt (c_W24.safe ((A10.ext E11).wr W14).lt (c_W14.safe (A10.ext E11).lt (c_E11.safe A10.lt (Safe.ext E10 C0.1 (Safe.new (Nat.le_of_eq g10.symm))))))))))
  have z70 : h0.size ≤ b10 := Nat.le_trans (Keep.refl h0 []).1 (Nat.le_of_eq g10.symm)
  have Kp_K68 : Keep h0 T68.heap [] := Kp_W48.trans K68 (allS (Or.inr z70) all0)
  have c_K68 := CHr.keep K68 (allS sf69 all0) C_W48.1
  have C_K68 := C_W48.trans c_K68
  refine finH (Q := r2_7Q Z a1 k2 p3 p4 p5 p6 p7 p8 p58 h0 n0) (rm := (rM 4 3 16 66)) (vm := s.vm) Bd X68 hZ (own_EW hw) C_K68 hh rfl (State.WarmedH.since (State.WarmedH.refl s) 0) (Nat.zero_le _) (some (.ref b10)) nofun ⟨b10, b68_0, k68_0, rfl, N68, Kp_K68, f68_2, f68_3, f68_4, (own_cast rfl (by rw [H71, H72, H73, H74, H75, H76]) f68_5)⟩ (by decide) (by decide) fun fs hr => ?_
  show St p e below s₁ m 0 #[rv a1, iv (6:Int32)] [] _
  refine iN X0 hx hby d2_0 rfl ?_
  refine XS.ifYes X0.here hx rfl (pc0 := 1) (pc' := 7) rfl (hb hby d2_1) rfl ((if0 _ _).trans (feq (by decide : ¬ ((6:Int32) = (0:Int32)))).2) (by decide) (by decide) ?_
  refine iN X0 hx hby d2_7 rfl ?_
  refine iC X0 hx hby d2_8 ?_
  refine XS.icmpYes X0.here hx rfl (pc0 := 9) (pc' := 19) rfl (hb hby d2_9) rfl (feq (by decide : ¬ ((6:Int32) = (1:Int32)))).2 (by decide) (by decide) ?_
  refine iN X0 hx hby d2_19 rfl ?_
  refine iC X0 hx hby d2_20 ?_
  refine XS.icmpYes X0.here hx rfl (pc0 := 21) (pc' := 47) rfl (hb hby d2_21) rfl (feq (by decide : ¬ ((6:Int32) = (2:Int32)))).2 (by decide) (by decide) ?_
  refine iN X0 hx hby d2_47 rfl ?_
  refine iC X0 hx hby d2_48 ?_
  refine XS.icmpYes X0.here hx rfl (pc0 := 49) (pc' := 81) rfl (hb hby d2_49) rfl (feq (by decide : ¬ ((6:Int32) = (3:Int32)))).2 (by decide) (by decide) ?_
  refine iN X0 hx hby d2_81 rfl ?_
  refine iC X0 hx hby d2_82 ?_
  refine XS.icmpYes X0.here hx rfl (pc0 := 83) (pc' := 121) rfl (hb hby d2_83) rfl (feq (by decide : ¬ ((6:Int32) = (4:Int32)))).2 (by decide) (by decide) ?_
  refine iN X0 hx hby d2_121 rfl ?_
  refine iC X0 hx hby d2_122 ?_
  refine XS.icmpYes X0.here hx rfl (pc0 := 123) (pc' := 167) rfl (hb hby d2_123) rfl (feq (by decide : ¬ ((6:Int32) = (5:Int32)))).2 (by decide) (by decide) ?_
  refine st10 _ ?_
  refine XS.dup X10.here hx rfl (hb hby d2_170) rfl rfl ?_
  refine XS.bipush X10.here hx rfl (hb hby d2_171) ?_
  refine st11 _ ?_
  refine XS.dup X11.here hx rfl (hb hby d2_175) rfl rfl ?_
  refine iC X11 hx hby d2_176 ?_
  refine aN X11 hx hby d2_177 rfl rfl ?_
  refine iC X11 hx hby d2_178 ?_
  show St p e below T11 m 179 #[rv a1, iv (6:Int32)] [(.int (0:Int32)), (.ref a1), (.int (0:Int32)), (.ref b11), (.ref b11), (.ref b10), (.ref b10)] _
  refine X11.caload hx (j := (0:Int32)) (v := (.int p3)) (by rw [e11]; exact Ar12.1) (State.isArrayOf_alike hZ.alike Ar12.2.1) Ar12.2.2 hin12 (Has.at H12 hin12 rfl) (g := (mkF m 179 #[rv a1, iv (6:Int32)] [(.int (0:Int32)), (.ref a1), (.int (0:Int32)), (.ref b11), (.ref b11), (.ref b10), (.ref b10)])) rfl rfl (hb hby d2_179) _ ?_
  refine st14 _ ?_
  refine XS.dup X14.here hx rfl (hb hby d2_181) rfl rfl ?_
  refine iC X14 hx hby d2_182 ?_
  refine aN X14 hx hby d2_183 rfl rfl ?_
  refine iC X14 hx hby d2_184 ?_
  refine X14.caload hx (j := (1:Int32)) (v := (.int p4)) (by rw [e14]; exact Ar19.1) (State.isArrayOf_alike hZ.alike Ar19.2.1) Ar19.2.2 hin19 (Has.at H19 hin19 rfl) (g := (mkF m 185 #[rv a1, iv (6:Int32)] [(.int (1:Int32)), (.ref a1), (.int (1:Int32)), (.ref b11), (.ref b11), (.ref b10), (.ref b10)])) rfl rfl (hb hby d2_185) _ ?_
  refine st24 _ ?_
  refine XS.dup X24.here hx rfl (hb hby d2_187) rfl rfl ?_
  refine iC X24 hx hby d2_188 ?_
  refine aN X24 hx hby d2_189 rfl rfl ?_
  refine iC X24 hx hby d2_190 ?_
  refine X24.caload hx (j := (2:Int32)) (v := (.int p5)) (by rw [e24]; exact Ar28.1) (State.isArrayOf_alike hZ.alike Ar28.2.1) Ar28.2.2 hin28 (Has.at H28 hin28 rfl) (g := (mkF m 191 #[rv a1, iv (6:Int32)] [(.int (2:Int32)), (.ref a1), (.int (2:Int32)), (.ref b11), (.ref b11), (.ref b10), (.ref b10)])) rfl rfl (hb hby d2_191) _ ?_
  refine st30 _ ?_
  refine XS.dup X30.here hx rfl (hb hby d2_193) rfl rfl ?_
  refine iC X30 hx hby d2_194 ?_
  refine aN X30 hx hby d2_195 rfl rfl ?_
  refine iC X30 hx hby d2_196 ?_
  refine X30.caload hx (j := (3:Int32)) (v := (.int p6)) (by rw [e30]; exact Ar34.1) (State.isArrayOf_alike hZ.alike Ar34.2.1) Ar34.2.2 hin34 (Has.at H34 hin34 rfl) (g := (mkF m 197 #[rv a1, iv (6:Int32)] [(.int (3:Int32)), (.ref a1), (.int (3:Int32)), (.ref b11), (.ref b11), (.ref b10), (.ref b10)])) rfl rfl (hb hby d2_197) _ ?_
  refine st36 _ ?_
  refine XS.dup X36.here hx rfl (hb hby d2_199) rfl rfl ?_
  refine iC X36 hx hby d2_200 ?_
  refine aN X36 hx hby d2_201 rfl rfl ?_
  refine iC X36 hx hby d2_202 ?_
  refine X36.caload hx (j := (4:Int32)) (v := (.int p7)) (by rw [e36]; exact Ar40.1) (State.isArrayOf_alike hZ.alike Ar40.2.1) Ar40.2.2 hin40 (Has.at H40 hin40 rfl) (g := (mkF m 203 #[rv a1, iv (6:Int32)] [(.int (4:Int32)), (.ref a1), (.int (4:Int32)), (.ref b11), (.ref b11), (.ref b10), (.ref b10)])) rfl rfl (hb hby d2_203) _ ?_
  show St p e below T36 m 204 #[rv a1, iv (6:Int32)] [(.int p7), (.int (4:Int32)), (.ref b11), (.ref b11), (.ref b10), (.ref b10)] _
  refine st42 _ ?_
  refine XS.dup X42.here hx rfl (hb hby d2_205) rfl rfl ?_
  refine iC X42 hx hby d2_206 ?_
  refine aN X42 hx hby d2_207 rfl rfl ?_
  refine iC X42 hx hby d2_208 ?_
  refine X42.caload hx (j := (5:Int32)) (v := (.int p8)) (by rw [e42]; exact Ar46.1) (State.isArrayOf_alike hZ.alike Ar46.2.1) Ar46.2.2 hin46 (Has.at H46 hin46 rfl) (g := (mkF m 209 #[rv a1, iv (6:Int32)] [(.int (5:Int32)), (.ref a1), (.int (5:Int32)), (.ref b11), (.ref b11), (.ref b10), (.ref b10)])) rfl rfl (hb hby d2_209) _ ?_
  refine st48 _ ?_
  refine st68.trans ?_
  exact retA X68 hx Bd.returns rfl rfl (hb hby d2_214) hr
theorem law_7 (l : Launch) (Z : State) (a0 : Array Value) (hw : HW a0 Z) (ws : List Jvm.Cond) (zCOMPACT_STRINGS:Int32) (vF : Value) (B : Base Z zCOMPACT_STRINGS vF) (i0:Int32) (i1 : Int64) (h0 : Heap) (n0 : Nat) (O0 : Old Z n0 h0) (pin0 : (((i0.toUInt32 >>> ((6:Int32) &&& 31).toUInt32).toInt32) % (7:Int32)) = (6:Int32)) (hc20 : own_ok (own_sp [(own_pk i0 i1 (0:Int32)), (own_pk i0 i1 (1:Int32)), (own_pk i0 i1 (2:Int32)), (own_pk i0 i1 (3:Int32)), (own_pk i0 i1 (4:Int32)), (own_pk i0 i1 (5:Int32))]) (0:Int32) (0:Int32) (own_pk i0 i1 (0:Int32))) (hc27 : own_ok (own_sp [(own_pk i0 i1 (0:Int32)), (own_pk i0 i1 (1:Int32)), (own_pk i0 i1 (2:Int32)), (own_pk i0 i1 (3:Int32)), (own_pk i0 i1 (4:Int32)), (own_pk i0 i1 (5:Int32))]) (own_nf (0:Int32) (own_pk i0 i1 (0:Int32))) (own_no (0:Int32) (own_pk i0 i1 (0:Int32))) (own_pk i0 i1 (1:Int32))) (hc34 : own_ok (own_sp [(own_pk i0 i1 (0:Int32)), (own_pk i0 i1 (1:Int32)), (own_pk i0 i1 (2:Int32)), (own_pk i0 i1 (3:Int32)), (own_pk i0 i1 (4:Int32)), (own_pk i0 i1 (5:Int32))]) (own_nf (own_nf (0:Int32) (own_pk i0 i1 (0:Int32))) (own_pk i0 i1 (1:Int32))) (own_no (own_no (0:Int32) (own_pk i0 i1 (0:Int32))) (own_pk i0 i1 (1:Int32))) (own_pk i0 i1 (2:Int32))) (hc41 : own_ok (own_sp [(own_pk i0 i1 (0:Int32)), (own_pk i0 i1 (1:Int32)), (own_pk i0 i1 (2:Int32)), (own_pk i0 i1 (3:Int32)), (own_pk i0 i1 (4:Int32)), (own_pk i0 i1 (5:Int32))]) (own_nf (own_nf (own_nf (0:Int32) (own_pk i0 i1 (0:Int32))) (own_pk i0 i1 (1:Int32))) (own_pk i0 i1 (2:Int32))) (own_no (own_no (own_no (0:Int32) (own_pk i0 i1 (0:Int32))) (own_pk i0 i1 (1:Int32))) (own_pk i0 i1 (2:Int32))) (own_pk i0 i1 (3:Int32))) (hc48 : own_ok (own_sp [(own_pk i0 i1 (0:Int32)), (own_pk i0 i1 (1:Int32)), (own_pk i0 i1 (2:Int32)), (own_pk i0 i1 (3:Int32)), (own_pk i0 i1 (4:Int32)), (own_pk i0 i1 (5:Int32))]) (own_nf (own_nf (own_nf (own_nf (0:Int32) (own_pk i0 i1 (0:Int32))) (own_pk i0 i1 (1:Int32))) (own_pk i0 i1 (2:Int32))) (own_pk i0 i1 (3:Int32))) (own_no (own_no (own_no (own_no (0:Int32) (own_pk i0 i1 (0:Int32))) (own_pk i0 i1 (1:Int32))) (own_pk i0 i1 (2:Int32))) (own_pk i0 i1 (3:Int32))) (own_pk i0 i1 (4:Int32))) (hc55 : own_ok (own_sp [(own_pk i0 i1 (0:Int32)), (own_pk i0 i1 (1:Int32)), (own_pk i0 i1 (2:Int32)), (own_pk i0 i1 (3:Int32)), (own_pk i0 i1 (4:Int32)), (own_pk i0 i1 (5:Int32))]) (own_nf (own_nf (own_nf (own_nf (own_nf (0:Int32) (own_pk i0 i1 (0:Int32))) (own_pk i0 i1 (1:Int32))) (own_pk i0 i1 (2:Int32))) (own_pk i0 i1 (3:Int32))) (own_pk i0 i1 (4:Int32))) (own_no (own_no (own_no (own_no (own_no (0:Int32) (own_pk i0 i1 (0:Int32))) (own_pk i0 i1 (1:Int32))) (own_pk i0 i1 (2:Int32))) (own_pk i0 i1 (3:Int32))) (own_pk i0 i1 (4:Int32))) (own_pk i0 i1 (5:Int32))) (hc62 : (own_nf (own_nf (own_nf (own_nf (own_nf (own_nf (0:Int32) (own_pk i0 i1 (0:Int32))) (own_pk i0 i1 (1:Int32))) (own_pk i0 i1 (2:Int32))) (own_pk i0 i1 (3:Int32))) (own_pk i0 i1 (4:Int32))) (own_pk i0 i1 (5:Int32))) = ((own_n2 (own_sp [(own_pk i0 i1 (0:Int32)), (own_pk i0 i1 (1:Int32)), (own_pk i0 i1 (2:Int32)), (own_pk i0 i1 (3:Int32)), (own_pk i0 i1 (4:Int32)), (own_pk i0 i1 (5:Int32))])) - (1:Int32))) (hc64 : own_inb (own_sp [(own_pk i0 i1 (0:Int32)), (own_pk i0 i1 (1:Int32)), (own_pk i0 i1 (2:Int32)), (own_pk i0 i1 (3:Int32)), (own_pk i0 i1 (4:Int32)), (own_pk i0 i1 (5:Int32))]) (own_nf (own_nf (own_nf (own_nf (own_nf (own_nf (0:Int32) (own_pk i0 i1 (0:Int32))) (own_pk i0 i1 (1:Int32))) (own_pk i0 i1 (2:Int32))) (own_pk i0 i1 (3:Int32))) (own_pk i0 i1 (4:Int32))) (own_pk i0 i1 (5:Int32)))) (hc68 : (own_tn (own_nth (own_sp [(own_pk i0 i1 (0:Int32)), (own_pk i0 i1 (1:Int32)), (own_pk i0 i1 (2:Int32)), (own_pk i0 i1 (3:Int32)), (own_pk i0 i1 (4:Int32)), (own_pk i0 i1 (5:Int32))]) (own_nf (own_nf (own_nf (own_nf (own_nf (own_nf (0:Int32) (own_pk i0 i1 (0:Int32))) (own_pk i0 i1 (1:Int32))) (own_pk i0 i1 (2:Int32))) (own_pk i0 i1 (3:Int32))) (own_pk i0 i1 (4:Int32))) (own_pk i0 i1 (5:Int32))))) = (own_no (own_no (own_no (own_no (own_no (own_no (0:Int32) (own_pk i0 i1 (0:Int32))) (own_pk i0 i1 (1:Int32))) (own_pk i0 i1 (2:Int32))) (own_pk i0 i1 (3:Int32))) (own_pk i0 i1 (4:Int32))) (own_pk i0 i1 (5:Int32)))) :
    MFH l x code maxLocals ret ws room_1 Z #[(.int i0), (.long i1)] h0 (lawQ n0) := by
  refine own_inH (pq pn0) #[iv i0, .val (.long i1), .second, un, un, un, un, un, un] (fun _ => by first | (simp [entryFrame, mkF, argsToLocals, Value.category, maxLocals]; done) | rfl) ?_
  intro p e s m below meth c s₁ Bd hx hby hml hown hnm hZ hh C0 e0 X0
  have N0 := Fr.nil n0
  obtain ⟨B0, B1, B2, B3⟩ := B
  obtain ⟨_, h1, _, b1_0, k1_0, X1, e1, N1, K1, _, f1_2, f1_3, st1⟩ := g1_1 i0 i1 (6:Int32) ⟨X0, hx, hZ, hw, hby, hml, hown, e0, O0, N0, by decide, by decide, by decide, by decide⟩
  have O_K1 : Old Z n0 h1 := O0.keep K1 all0
  have c_K1 := CHr.keep K1 all0 C0.1
  have C_K1 := C0.trans c_K1
  obtain ⟨T3, _, _, X3, hSq3, hg3, Cq3, hQ3, st3⟩ := flH X1 (Jvm.RoadKit.callSS X1 hx (y := y2) hown (mo hZ hw 5 rfl) (mo hZ hw 6 rfl) (mo hZ hw 3 rfl) (mo hZ hw 7 rfl) (by decide) (backOfSH (s := s) (vm0 := s.vm) (W := 0) (r2_7 l Z a0 hw [] b1_0 k1_0 (own_pk i0 i1 (0:Int32)) (own_pk i0 i1 (1:Int32)) (own_pk i0 i1 (2:Int32)) (own_pk i0 i1 (3:Int32)) (own_pk i0 i1 (4:Int32)) (own_pk i0 i1 (5:Int32)) zCOMPACT_STRINGS h1 n0 O_K1 f1_2 f1_3 B0 B1 (⟨own_pkb0 _ _ _, own_pkbb _ _ _⟩) (⟨own_pkb0 _ _ _, own_pkbb _ _ _⟩) (⟨own_pkb0 _ _ _, own_pkbb _ _ _⟩) (⟨own_pkb0 _ _ _, own_pkbb _ _ _⟩) (⟨own_pkb0 _ _ _, own_pkbb _ _ _⟩) (⟨own_pkb0 _ _ _, own_pkbb _ _ _⟩) (own_pkn _ _ _) (own_pkn _ _ _) (own_pkn _ _ _) (own_pkn _ _ _) (own_pkn _ _ _) (own_pkn _ _ _)) hZ (ow hw 7 rfl) (ow hw 3 rfl) (by decide) (by decide) (own_EW hw) C_K1.1) (g := (mkF m 77 #[iv i0, .val (.long i1), .second, iv (6:Int32), rv b1_0, un, un, un, un] [(.int (6:Int32)), (.ref b1_0)])) rfl (by rw [hml]; rfl) (argsL := [(.ref b1_0), (.int (6:Int32))]) (rest := []) (lenOf pd4 rfl) rfl wf (hb hby at_77) (fun _ _ => ⟨rfl, e1, (by decide : 1 + 3 ≤ _), (by decide : 6 + 16 ≤ _)⟩))
  obtain ⟨Y3, hS3, hZ3, hown3⟩ := rebS (s := s) (vm0 := s.vm) (State.WarmedH.since (State.WarmedH.refl s) 0) (by rw [e1]; exact (Nat.zero_le _)) X3 hSq3 hg3 hZ hown
  obtain ⟨b3_0, b3_1, k3_0, rfl, N3q, K3, f3_1, f3_2, f3_3, f3_4⟩ := hQ3
  have N3 := Fr.app N1 N3q
  have O_K3 : Old Z n0 T3.heap := O_K1.keep K3 all0
  have c_K3 := Cq3
  have C_K3 := C_K1.trans c_K3
  have f4 := (f1_3.keep K3)
  have f6 := (f1_2.keep K3 nin0)
  obtain ⟨T8, _, _, X8, hSq8, hg8, Cq8, hQ8, st8⟩ := flH Y3 (Jvm.RoadKit.callSS Y3 hx (y := y3) hown3 (mo hZ3 hw 16 rfl) (mo hZ3 hw 17 rfl) (mo hZ3 hw 18 rfl) (mo hZ3 hw 19 rfl) (by decide) (backOfSH (s := s) (vm0 := T3.vm) (W := 0) (own_fields l Z a0 hw [] b3_0 b3_1 k3_0 ([(own_pk i0 i1 (0:Int32)), (own_pk i0 i1 (1:Int32)), (own_pk i0 i1 (2:Int32)), (own_pk i0 i1 (3:Int32)), (own_pk i0 i1 (4:Int32)), (own_pk i0 i1 (5:Int32))]) zCOMPACT_STRINGS vF T3.heap n0 O_K3 f3_1 f3_3 f3_2 f3_4 B0 B1 (⟨Nat.le_of_ble_eq_true rfl, (own_allS (own_pkb _ _ _) (own_allS (own_pkb _ _ _) (own_allS (own_pkb _ _ _) (own_allS (own_pkb _ _ _) (own_allS (own_pkb _ _ _) (own_allS (own_pkb _ _ _) own_all0))))))⟩) B2 B3) hZ3 (ow hw 19 rfl) (ow hw 18 rfl) (by decide) (by decide) (own_EW hw) C_K3.1) (g := (mkF m 84 #[iv i0, .val (.long i1), .second, iv (6:Int32), rv b1_0, rv b3_0, un, un, un] [(.ref b3_0)])) rfl (by rw [hml]; rfl) (argsL := [(.ref b3_0)]) (rest := []) (lenOf pd0 rfl) rfl wf (hb hby at_84) (fun _ _ => ⟨rfl, rfl, (by decide : 4 + 15 ≤ _), (by decide : 22 + 77 ≤ _)⟩))
  obtain ⟨Y8, hS8, hZ8, hown8⟩ := rebS (s := s) (vm0 := T3.vm) hS3 (Nat.le_refl _) X8 hSq8 hg8 hZ3 hown3
  obtain ⟨b8_0, rfl, N8q, K8, _, f8_2⟩ := hQ8
  have N8 := Fr.app N3 N8q
  have O_K8 : Old Z n0 T8.heap := O_K3.keep K8 all0
  have c_K8 := Cq8
  have C_K8 := C_K3.trans c_K8
  obtain ⟨_, h9, k9, X9, e9, E9, A9, C9, st9⟩ := newPE Y8 hx hZ8 (aty := .int) (ow hw 86 rfl) rfl (g := (mkF m 97 #[iv i0, .val (.long i1), .second, iv (6:Int32), rv b1_0, rv b3_0, rv b8_0, un, un] [(.int (3:Int32))])) rfl (hb hby at_97) rfl (by decide) (cap := 3) (by decide) (by decide) (by decide) (by decide) (ad := "[I") (by decide)
  obtain ⟨b9, g9⟩ : ∃ z, z = T8.heap.size := ⟨_, rfl⟩
  rw [← g9] at A9 C9 st9
  have O_E9 : Old Z n0 h9 := O_K8.ext E9
  have c_E9 := CHr.ext E9 C_K8.1
  have C_E9 := C_K8.trans c_E9
  have V9 : Arv Z h9 b9 k9 .int (3:Int32) [(.int (0:Int32)), (.int (0:Int32)), (.int (0:Int32))] (.int (0:Int32)) := (Arv.new A9 (by decide)).pad (pad_rep [] (.int (0:Int32)) 3)
  obtain ⟨cl10, Ar10, q10, S10, M10, H10, G10⟩ := id V9
  have hin10 : ¬ ((2:Int32) < 0 ∨ cl10.slots.size ≤ ((2:Int32)).toNatClampNeg) := inb_of S10 ⟨by decide, by decide⟩
  obtain ⟨T10, h10, X10, e10, W10, st10⟩ := stI X9 hx hZ8 e9 Ar10 (j := (2:Int32)) hin10 (g := (mkF m 105 #[iv i0, .val (.long i1), .second, iv (6:Int32), rv b1_0, rv b3_0, rv b8_0, rv b9, un] [(.int (1:Int32)), (.int (2:Int32)), (.ref b9)])) rfl rfl (hb hby at_105)
  have g12 : n0 ≤ b9 := Nat.le_trans (Nat.le_trans (Nat.le_of_eq O_K8.1.symm) O_K8.2.1) (Nat.le_of_eq g9.symm)
  have O_W10 : Old Z n0 h10 := O_E9.wr W10 g12
  have c_W10 := CHr.wr W10 (Safe.ext E9 C_K8.1 (Safe.new (Nat.le_of_eq g9.symm))) C_E9.1
  have C_W10 := C_E9.trans c_W10
  have N14 := Fr.snoc X10 N8 g12
  have f11 : Arv Z h10 b9 k9 .int (3:Int32) [(.int (0:Int32)), (.int (0:Int32)), (.int (1:Int32))] (.int (0:Int32)) := Arv.set Ar10 q10 S10 M10 H10 G10 rfl W10 2 rfl (Nat.le_of_ble_eq_true rfl)
  have ne16 : b1_0 ≠ b9 := Nat.ne_of_lt (Nat.lt_of_lt_of_le (f4.keep K8).lt (Nat.le_of_eq g9.symm))
  have f17 := (((f6.keep K8 nin0).ext E9).other W10 ne16)
  obtain ⟨cl15, Ar15, _, S15, _, H15, _⟩ := id f17
  have hin15 : ¬ ((0:Int32) < 0 ∨ cl15.slots.size ≤ ((0:Int32)).toNatClampNeg) := inb_of S15 ⟨by decide, by decide⟩
  have f18 := ((f8_2.ext E9).keep1 (ow hw 10 rfl) (Keep.of_wr W10) V9)
  have f19 := (C9.wr W10)
  obtain ⟨T21, _, _, X21, hQ21, st21⟩ := cS X10 hx hZ8 hw hown8 (y := y26) 107 rfl 108 rfl 3 rfl 109 rfl (by decide) (W := 0) (own_step l Z a0 hw [] b8_0 b9 k9 (own_sp [(own_pk i0 i1 (0:Int32)), (own_pk i0 i1 (1:Int32)), (own_pk i0 i1 (2:Int32)), (own_pk i0 i1 (3:Int32)), (own_pk i0 i1 (4:Int32)), (own_pk i0 i1 (5:Int32))]) (0:Int32) (0:Int32) (own_pk i0 i1 (0:Int32)) zCOMPACT_STRINGS vF h10 n0 O_W10 f11 f18 B0 B1 (own_gsp ⟨Nat.le_of_ble_eq_true rfl, (own_allS (own_pkb _ _ _) (own_allS (own_pkb _ _ _) (own_allS (own_pkb _ _ _) (own_allS (own_pkb _ _ _) (own_allS (own_pkb _ _ _) (own_allS (own_pkb _ _ _) own_all0))))))⟩) g12 f19 B2 B3 hc20) (by decide) (by decide) e10 (g := (mkF m 118 #[iv i0, .val (.long i1), .second, iv (6:Int32), rv b1_0, rv b3_0, rv b8_0, rv b9, un] [(.int (own_pk i0 i1 (0:Int32))), (.ref b9), (.ref b8_0)])) rfl (by rw [hml]; rfl) (argsL := [(.ref b8_0), (.ref b9), (.int (own_pk i0 i1 (0:Int32)))]) (rest := []) (lenOf pd2 rfl) rfl wf (hb hby at_118) rfl (by decide) (by decide)
  obtain ⟨rfl, N21q, K21, f21_1⟩ := hQ21
  have N21 := Fr.app N14 N21q
  have sf22 := (c_W10.safe C9.lt (Safe.ext E9 C_K8.1 (Safe.new (Nat.le_of_eq g9.symm))))
  have O_K21 : Old Z n0 T21.heap := O_W10.keep K21 (allS g12 all0)
  have c_K21 := CHr.keep K21 (allS sf22 all0) C_W10.1
  have C_K21 := C_W10.trans c_K21
  have f24 := (f17.keep K21 (ninS ne16 nin0))
  obtain ⟨cl23, Ar23, _, S23, _, H23, _⟩ := id f24
  have hin23 : ¬ ((1:Int32) < 0 ∨ cl23.slots.size ≤ ((1:Int32)).toNatClampNeg) := inb_of S23 ⟨by decide, by decide⟩
  have f25 := (f18.keep1 (ow hw 10 rfl) K21 f11)
  have f26 := (f19.keep K21)
  obtain ⟨T28, _, _, X28, hQ28, st28⟩ := cS X21 hx hZ8 hw hown8 (y := y26) 107 rfl 108 rfl 3 rfl 109 rfl (by decide) (W := 0) (own_step l Z a0 hw [] b8_0 b9 k9 (own_sp [(own_pk i0 i1 (0:Int32)), (own_pk i0 i1 (1:Int32)), (own_pk i0 i1 (2:Int32)), (own_pk i0 i1 (3:Int32)), (own_pk i0 i1 (4:Int32)), (own_pk i0 i1 (5:Int32))]) (own_nf (0:Int32) (own_pk i0 i1 (0:Int32))) (own_no (0:Int32) (own_pk i0 i1 (0:Int32))) (own_pk i0 i1 (1:Int32)) zCOMPACT_STRINGS vF T21.heap n0 O_K21 f21_1 f25 B0 B1 (own_gsp ⟨Nat.le_of_ble_eq_true rfl, (own_allS (own_pkb _ _ _) (own_allS (own_pkb _ _ _) (own_allS (own_pkb _ _ _) (own_allS (own_pkb _ _ _) (own_allS (own_pkb _ _ _) (own_allS (own_pkb _ _ _) own_all0))))))⟩) g12 f26 B2 B3 hc27) (by decide) (by decide) rfl (g := (mkF m 134 #[iv i0, .val (.long i1), .second, iv (6:Int32), rv b1_0, rv b3_0, rv b8_0, rv b9, un] [(.int (own_pk i0 i1 (1:Int32))), (.ref b9), (.ref b8_0)])) rfl (by rw [hml]; rfl) (argsL := [(.ref b8_0), (.ref b9), (.int (own_pk i0 i1 (1:Int32)))]) (rest := []) (lenOf pd2 rfl) rfl wf (hb hby at_134) rfl (by decide) (by decide)
  obtain ⟨rfl, N28q, K28, f28_1⟩ := hQ28
  have N28 := Fr.app N21 N28q
  have sf29 := (c_K21.safe (C9.wr W10).lt sf22)
  have O_K28 : Old Z n0 T28.heap := O_K21.keep K28 (allS g12 all0)
  have c_K28 := CHr.keep K28 (allS sf29 all0) C_K21.1
  have C_K28 := C_K21.trans c_K28
  have f31 := (f24.keep K28 (ninS ne16 nin0))
  obtain ⟨cl30, Ar30, _, S30, _, H30, _⟩ := id f31
  have hin30 : ¬ ((2:Int32) < 0 ∨ cl30.slots.size ≤ ((2:Int32)).toNatClampNeg) := inb_of S30 ⟨by decide, by decide⟩
  have f32 := (f25.keep1 (ow hw 10 rfl) K28 f21_1)
  have f33 := (f26.keep K28)
  obtain ⟨T35, _, _, X35, hQ35, st35⟩ := cS X28 hx hZ8 hw hown8 (y := y26) 107 rfl 108 rfl 3 rfl 109 rfl (by decide) (W := 0) (own_step l Z a0 hw [] b8_0 b9 k9 (own_sp [(own_pk i0 i1 (0:Int32)), (own_pk i0 i1 (1:Int32)), (own_pk i0 i1 (2:Int32)), (own_pk i0 i1 (3:Int32)), (own_pk i0 i1 (4:Int32)), (own_pk i0 i1 (5:Int32))]) (own_nf (own_nf (0:Int32) (own_pk i0 i1 (0:Int32))) (own_pk i0 i1 (1:Int32))) (own_no (own_no (0:Int32) (own_pk i0 i1 (0:Int32))) (own_pk i0 i1 (1:Int32))) (own_pk i0 i1 (2:Int32)) zCOMPACT_STRINGS vF T28.heap n0 O_K28 f28_1 f32 B0 B1 (own_gsp ⟨Nat.le_of_ble_eq_true rfl, (own_allS (own_pkb _ _ _) (own_allS (own_pkb _ _ _) (own_allS (own_pkb _ _ _) (own_allS (own_pkb _ _ _) (own_allS (own_pkb _ _ _) (own_allS (own_pkb _ _ _) own_all0))))))⟩) g12 f33 B2 B3 hc34) (by decide) (by decide) rfl (g := (mkF m 150 #[iv i0, .val (.long i1), .second, iv (6:Int32), rv b1_0, rv b3_0, rv b8_0, rv b9, un] [(.int (own_pk i0 i1 (2:Int32))), (.ref b9), (.ref b8_0)])) rfl (by rw [hml]; rfl) (argsL := [(.ref b8_0), (.ref b9), (.int (own_pk i0 i1 (2:Int32)))]) (rest := []) (lenOf pd2 rfl) rfl wf (hb hby at_150) rfl (by decide) (by decide)
  obtain ⟨rfl, N35q, K35, f35_1⟩ := hQ35
  have N35 := Fr.app N28 N35q
  have sf36 := (c_K28.safe ((C9.wr W10).keep K21).lt sf29)
  have O_K35 : Old Z n0 T35.heap := O_K28.keep K35 (allS g12 all0)
  have c_K35 := CHr.keep K35 (allS sf36 all0) C_K28.1
  have C_K35 := C_K28.trans c_K35
  have f38 := (f31.keep K35 (ninS ne16 nin0))
  obtain ⟨cl37, Ar37, _, S37, _, H37, _⟩ := id f38
  have hin37 : ¬ ((3:Int32) < 0 ∨ cl37.slots.size ≤ ((3:Int32)).toNatClampNeg) := inb_of S37 ⟨by decide, by decide⟩
  have f39 := (f32.keep1 (ow hw 10 rfl) K35 f28_1)
  have f40 := (f33.keep K35)
  obtain ⟨T42, _, _, X42, hQ42, st42⟩ := cS X35 hx hZ8 hw hown8 (y := y26) 107 rfl 108 rfl 3 rfl 109 rfl (by decide) (W := 0) (own_step l Z a0 hw [] b8_0 b9 k9 (own_sp [(own_pk i0 i1 (0:Int32)), (own_pk i0 i1 (1:Int32)), (own_pk i0 i1 (2:Int32)), (own_pk i0 i1 (3:Int32)), (own_pk i0 i1 (4:Int32)), (own_pk i0 i1 (5:Int32))]) (own_nf (own_nf (own_nf (0:Int32) (own_pk i0 i1 (0:Int32))) (own_pk i0 i1 (1:Int32))) (own_pk i0 i1 (2:Int32))) (own_no (own_no (own_no (0:Int32) (own_pk i0 i1 (0:Int32))) (own_pk i0 i1 (1:Int32))) (own_pk i0 i1 (2:Int32))) (own_pk i0 i1 (3:Int32)) zCOMPACT_STRINGS vF T35.heap n0 O_K35 f35_1 f39 B0 B1 (own_gsp ⟨Nat.le_of_ble_eq_true rfl, (own_allS (own_pkb _ _ _) (own_allS (own_pkb _ _ _) (own_allS (own_pkb _ _ _) (own_allS (own_pkb _ _ _) (own_allS (own_pkb _ _ _) (own_allS (own_pkb _ _ _) own_all0))))))⟩) g12 f40 B2 B3 hc41) (by decide) (by decide) rfl (g := (mkF m 166 #[iv i0, .val (.long i1), .second, iv (6:Int32), rv b1_0, rv b3_0, rv b8_0, rv b9, un] [(.int (own_pk i0 i1 (3:Int32))), (.ref b9), (.ref b8_0)])) rfl (by rw [hml]; rfl) (argsL := [(.ref b8_0), (.ref b9), (.int (own_pk i0 i1 (3:Int32)))]) (rest := []) (lenOf pd2 rfl) rfl wf (hb hby at_166) rfl (by decide) (by decide)
  obtain ⟨rfl, N42q, K42, f42_1⟩ := hQ42
  have N42 := Fr.app N35 N42q
  have sf43 := (c_K35.safe (((C9.wr W10).keep K21).keep K28).lt sf36)
  have O_K42 : Old Z n0 T42.heap := O_K35.keep K42 (allS g12 all0)
  have c_K42 := CHr.keep K42 (allS sf43 all0) C_K35.1
  have C_K42 := C_K35.trans c_K42
  have f45 := (f38.keep K42 (ninS ne16 nin0))
  obtain ⟨cl44, Ar44, _, S44, _, H44, _⟩ := id f45
  have hin44 : ¬ ((4:Int32) < 0 ∨ cl44.slots.size ≤ ((4:Int32)).toNatClampNeg) := inb_of S44 ⟨by decide, by decide⟩
  have f46 := (f39.keep1 (ow hw 10 rfl) K42 f35_1)
  have f47 := (f40.keep K42)
  obtain ⟨T49, _, _, X49, hQ49, st49⟩ := cS X42 hx hZ8 hw hown8 (y := y26) 107 rfl 108 rfl 3 rfl 109 rfl (by decide) (W := 0) (own_step l Z a0 hw [] b8_0 b9 k9 (own_sp [(own_pk i0 i1 (0:Int32)), (own_pk i0 i1 (1:Int32)), (own_pk i0 i1 (2:Int32)), (own_pk i0 i1 (3:Int32)), (own_pk i0 i1 (4:Int32)), (own_pk i0 i1 (5:Int32))]) (own_nf (own_nf (own_nf (own_nf (0:Int32) (own_pk i0 i1 (0:Int32))) (own_pk i0 i1 (1:Int32))) (own_pk i0 i1 (2:Int32))) (own_pk i0 i1 (3:Int32))) (own_no (own_no (own_no (own_no (0:Int32) (own_pk i0 i1 (0:Int32))) (own_pk i0 i1 (1:Int32))) (own_pk i0 i1 (2:Int32))) (own_pk i0 i1 (3:Int32))) (own_pk i0 i1 (4:Int32)) zCOMPACT_STRINGS vF T42.heap n0 O_K42 f42_1 f46 B0 B1 (own_gsp ⟨Nat.le_of_ble_eq_true rfl, (own_allS (own_pkb _ _ _) (own_allS (own_pkb _ _ _) (own_allS (own_pkb _ _ _) (own_allS (own_pkb _ _ _) (own_allS (own_pkb _ _ _) (own_allS (own_pkb _ _ _) own_all0))))))⟩) g12 f47 B2 B3 hc48) (by decide) (by decide) rfl (g := (mkF m 182 #[iv i0, .val (.long i1), .second, iv (6:Int32), rv b1_0, rv b3_0, rv b8_0, rv b9, un] [(.int (own_pk i0 i1 (4:Int32))), (.ref b9), (.ref b8_0)])) rfl (by rw [hml]; rfl) (argsL := [(.ref b8_0), (.ref b9), (.int (own_pk i0 i1 (4:Int32)))]) (rest := []) (lenOf pd2 rfl) rfl wf (hb hby at_182) rfl (by decide) (by decide)
  obtain ⟨rfl, N49q, K49, f49_1⟩ := hQ49
  have N49 := Fr.app N42 N49q
  have sf50 := (c_K42.safe ((((C9.wr W10).keep K21).keep K28).keep K35).lt sf43)
  have O_K49 : Old Z n0 T49.heap := O_K42.keep K49 (allS g12 all0)
  have c_K49 := CHr.keep K49 (allS sf50 all0) C_K42.1
  have C_K49 := C_K42.trans c_K49
  have f52 := (f45.keep K49 (ninS ne16 nin0))
  obtain ⟨cl51, Ar51, _, S51, _, H51, _⟩ := id f52
  have hin51 : ¬ ((5:Int32) < 0 ∨ cl51.slots.size ≤ ((5:Int32)).toNatClampNeg) := inb_of S51 ⟨by decide, by decide⟩
  have f53 := (f46.keep1 (ow hw 10 rfl) K49 f42_1)
  have f54 := (f47.keep K49)
  obtain ⟨T56, _, _, X56, hQ56, st56⟩ := cS X49 hx hZ8 hw hown8 (y := y26) 107 rfl 108 rfl 3 rfl 109 rfl (by decide) (W := 0) (own_step l Z a0 hw [] b8_0 b9 k9 (own_sp [(own_pk i0 i1 (0:Int32)), (own_pk i0 i1 (1:Int32)), (own_pk i0 i1 (2:Int32)), (own_pk i0 i1 (3:Int32)), (own_pk i0 i1 (4:Int32)), (own_pk i0 i1 (5:Int32))]) (own_nf (own_nf (own_nf (own_nf (own_nf (0:Int32) (own_pk i0 i1 (0:Int32))) (own_pk i0 i1 (1:Int32))) (own_pk i0 i1 (2:Int32))) (own_pk i0 i1 (3:Int32))) (own_pk i0 i1 (4:Int32))) (own_no (own_no (own_no (own_no (own_no (0:Int32) (own_pk i0 i1 (0:Int32))) (own_pk i0 i1 (1:Int32))) (own_pk i0 i1 (2:Int32))) (own_pk i0 i1 (3:Int32))) (own_pk i0 i1 (4:Int32))) (own_pk i0 i1 (5:Int32)) zCOMPACT_STRINGS vF T49.heap n0 O_K49 f49_1 f53 B0 B1 (own_gsp ⟨Nat.le_of_ble_eq_true rfl, (own_allS (own_pkb _ _ _) (own_allS (own_pkb _ _ _) (own_allS (own_pkb _ _ _) (own_allS (own_pkb _ _ _) (own_allS (own_pkb _ _ _) (own_allS (own_pkb _ _ _) own_all0))))))⟩) g12 f54 B2 B3 hc55) (by decide) (by decide) rfl (g := (mkF m 198 #[iv i0, .val (.long i1), .second, iv (6:Int32), rv b1_0, rv b3_0, rv b8_0, rv b9, un] [(.int (own_pk i0 i1 (5:Int32))), (.ref b9), (.ref b8_0)])) rfl (by rw [hml]; rfl) (argsL := [(.ref b8_0), (.ref b9), (.int (own_pk i0 i1 (5:Int32)))]) (rest := []) (lenOf pd2 rfl) rfl wf (hb hby at_198) rfl (by decide) (by decide)
  obtain ⟨rfl, N56q, K56, f56_1⟩ := hQ56
  have N56 := Fr.app N49 N56q
  have sf57 := (c_K49.safe (((((C9.wr W10).keep K21).keep K28).keep K35).keep K42).lt sf50)
  have O_K56 : Old Z n0 T56.heap := O_K49.keep K56 (allS g12 all0)
  have c_K56 := CHr.keep K56 (allS sf57 all0) C_K49.1
  have C_K56 := C_K49.trans c_K56
  obtain ⟨cl58, Ar58, _, S58, _, H58, _⟩ := id f56_1
  have hin58 : ¬ ((0:Int32) < 0 ∨ cl58.slots.size ≤ ((0:Int32)).toNatClampNeg) := inb_of S58 ⟨by decide, by decide⟩
  obtain ⟨cl59, Ar59, _, S59, _, H59, _⟩ := id f56_1
  have hin59 : ¬ ((2:Int32) < 0 ∨ cl59.slots.size ≤ ((2:Int32)).toNatClampNeg) := inb_of S59 ⟨by decide, by decide⟩
  have f61 := (f53.keep1 (ow hw 10 rfl) K56 f49_1)
  obtain ⟨_, Sx63, st63⟩ := own_rget X56 hx hZ8 f61 rfl hc64 (g := (mkF m 229 #[iv i0, .val (.long i1), .second, iv (6:Int32), rv b1_0, rv b3_0, rv b8_0, rv b9, iv (own_nf (own_nf (own_nf (own_nf (own_nf (own_nf (0:Int32) (own_pk i0 i1 (0:Int32))) (own_pk i0 i1 (1:Int32))) (own_pk i0 i1 (2:Int32))) (own_pk i0 i1 (3:Int32))) (own_pk i0 i1 (4:Int32))) (own_pk i0 i1 (5:Int32)))] [(.int (own_nf (own_nf (own_nf (own_nf (own_nf (own_nf (0:Int32) (own_pk i0 i1 (0:Int32))) (own_pk i0 i1 (1:Int32))) (own_pk i0 i1 (2:Int32))) (own_pk i0 i1 (3:Int32))) (own_pk i0 i1 (4:Int32))) (own_pk i0 i1 (5:Int32)))), (.ref b8_0)])) rfl rfl (hb hby at_229)
  obtain ⟨_, _, _, _, _, _⟩ := Sx63
  obtain ⟨a65, Sx65, st65⟩ := own_rget X56 hx hZ8 f61 rfl hc64 (g := (mkF m 237 #[iv i0, .val (.long i1), .second, iv (6:Int32), rv b1_0, rv b3_0, rv b8_0, rv b9, iv (own_nf (own_nf (own_nf (own_nf (own_nf (own_nf (0:Int32) (own_pk i0 i1 (0:Int32))) (own_pk i0 i1 (1:Int32))) (own_pk i0 i1 (2:Int32))) (own_pk i0 i1 (3:Int32))) (own_pk i0 i1 (4:Int32))) (own_pk i0 i1 (5:Int32)))] [(.int (own_nf (own_nf (own_nf (own_nf (own_nf (own_nf (0:Int32) (own_pk i0 i1 (0:Int32))) (own_pk i0 i1 (1:Int32))) (own_pk i0 i1 (2:Int32))) (own_pk i0 i1 (3:Int32))) (own_pk i0 i1 (4:Int32))) (own_pk i0 i1 (5:Int32)))), (.ref b8_0)])) rfl rfl (hb hby at_237)
  obtain ⟨_, _, Ea65, Fv65, Fc65, Av65⟩ := Sx65
  obtain ⟨_, _, q66a, _, q66c⟩ := isOf hZ8 rfl Ea65
  obtain ⟨T66, _, _, X66, hQ66, st66⟩ := fl X56 (X56.virtualBack hx (y := y8) (z := y8) hown8 (mo hZ8 hw 87 rfl) (mo hZ8 hw 42 rfl) (notFace_of_selects (args := #[]) (mo hZ8 hw 44 rfl)) (mo hZ8 hw 44 rfl) (mo hZ8 hw 43 rfl) (by decide) (own_lenB (W := 0) n0 hZ8 hw (ow hw 10 rfl) Ea65 Fv65 Fc65 Av65 (own_gtn (own_gsp ⟨Nat.le_of_ble_eq_true rfl, (own_allS (own_pkb _ _ _) (own_allS (own_pkb _ _ _) (own_allS (own_pkb _ _ _) (own_allS (own_pkb _ _ _) (own_allS (own_pkb _ _ _) (own_allS (own_pkb _ _ _) own_all0))))))⟩) _) (B0.ext O_K56.2) B1 (by decide) (by decide)) q66a q66c (g := (mkF m 238 #[iv i0, .val (.long i1), .second, iv (6:Int32), rv b1_0, rv b3_0, rv b8_0, rv b9, iv (own_nf (own_nf (own_nf (own_nf (own_nf (own_nf (0:Int32) (own_pk i0 i1 (0:Int32))) (own_pk i0 i1 (1:Int32))) (own_pk i0 i1 (2:Int32))) (own_pk i0 i1 (3:Int32))) (own_pk i0 i1 (4:Int32))) (own_pk i0 i1 (5:Int32)))] [(.ref a65)])) rfl (by rw [hml]; rfl) (Steps.refl _) (argsL := []) (rest := []) (lenOf pd23 rfl) rfl wf (hb hby at_238) (fun _ _ => ⟨rfl, rfl, (by decide : 20 + 0 ≤ _), (by decide : 102 + 0 ≤ _)⟩))
  obtain ⟨rfl, N66q, e66⟩ := hQ66
  have N66 := Fr.app N56 N66q
  obtain ⟨cl67, Ar67, _, S67, _, H67, _⟩ := id f56_1
  have hin67 : ¬ ((1:Int32) < 0 ∨ cl67.slots.size ≤ ((1:Int32)).toNatClampNeg) := inb_of S67 ⟨by decide, by decide⟩
  refine finH (Q := lawQ n0) (rm := room_1) (vm := T8.vm) Bd X66 hZ8 (own_EW hw) C_K56 hh e66 hS8 (Nat.le_trans (Nat.le_trans (Nat.le_trans (Nat.le_trans (Nat.le_trans (Nat.le_trans (Nat.le_trans (Nat.le_trans (Nat.le_refl _) E9.1) (Keep.of_wr W10).1) K21.1) K28.1) K35.1) K42.1) K49.1) K56.1) (some (.int (1:Int32))) nofun ⟨rfl, N66⟩ (by decide) (by decide) fun fs hr => ?_
  show St p e below s₁ m 0 #[iv i0, .val (.long i1), .second, un, un, un, un, un, un] [] _
  refine iN X0 hx hby at_0 rfl ?_
  refine XS.bipush X0.here hx rfl (hb hby at_1) ?_
  refine XS.iushr X0.here hx rfl (hb hby at_3) rfl ?_
  refine XS.bipush X0.here hx rfl (hb hby at_4) ?_
  refine Jvm.RoadKit.iremM (g := (mkF m 6 #[iv i0, .val (.long i1), .second, un, un, un, un, un, un] [(.int (7:Int32)), (.int ((i0.toUInt32 >>> ((6:Int32) &&& 31).toUInt32).toInt32))])) X0 hx rfl (hb hby at_6) rfl (by decide : ¬ ((7:Int32) = (0:Int32))) ?_
  show St p e below s₁ m 7 #[iv i0, .val (.long i1), .second, un, un, un, un, un, un] [(.int (((i0.toUInt32 >>> ((6:Int32) &&& 31).toUInt32).toInt32) % (7:Int32)))] _
  rw [pin0]
  refine XS.istoreN X0.here hx rfl (hb hby at_7) rfl (l' := #[iv i0, .val (.long i1), .second, iv (6:Int32), un, un, un, un, un]) rfl ?_
  refine st1 _ ?_
  refine aL X1 hx hby at_74 rfl rfl ?_
  refine iN X1 hx hby at_76 rfl ?_
  refine st3.trans ?_
  refine XS.astore Y3.here hx rfl (hb hby at_80) rfl rfl (l' := #[iv i0, .val (.long i1), .second, iv (6:Int32), rv b1_0, rv b3_0, un, un, un]) rfl ?_
  refine aL Y3 hx hby at_82 rfl rfl ?_
  refine st8.trans ?_
  refine XS.astore Y8.here hx rfl (hb hby at_87) rfl rfl (l' := #[iv i0, .val (.long i1), .second, iv (6:Int32), rv b1_0, rv b3_0, rv b8_0, un, un]) rfl ?_
  refine aL Y8 hx hby at_89 rfl rfl ?_
  refine XS.ifnonnullYes Y8.here hx rfl (pc0 := 91) (pc' := 96) rfl (hb hby at_91) rfl (by decide) (by decide) ?_
  refine iC Y8 hx hby at_96 ?_
  refine st9 _ ?_
  refine XS.astore X9.here hx rfl (hb hby at_99) rfl rfl (l' := #[iv i0, .val (.long i1), .second, iv (6:Int32), rv b1_0, rv b3_0, rv b8_0, rv b9, un]) rfl ?_
  refine aL X9 hx hby at_101 rfl rfl ?_
  refine iC X9 hx hby at_103 ?_
  refine iC X9 hx hby at_104 ?_
  refine st10 _ ?_
  refine iN X10 hx hby at_106 rfl ?_
  refine XS.ifNo X10.here hx rfl (hb hby at_107) rfl ((if0 _ _).trans (tlt (by decide : (0:Int32) < (6:Int32))).2.2.2) ?_
  show St p e below T10 m 110 #[iv i0, .val (.long i1), .second, iv (6:Int32), rv b1_0, rv b3_0, rv b8_0, rv b9, un] [] _
  refine aL X10 hx hby at_110 rfl rfl ?_
  refine aL X10 hx hby at_112 rfl rfl ?_
  refine aL X10 hx hby at_114 rfl rfl ?_
  refine iC X10 hx hby at_116 ?_
  refine X10.caload hx (j := (0:Int32)) (v := (.int (own_pk i0 i1 (0:Int32)))) (by rw [e10]; exact Ar15.1) (State.isArrayOf_alike hZ8.alike Ar15.2.1) Ar15.2.2 hin15 (Has.at H15 hin15 rfl) (g := (mkF m 117 #[iv i0, .val (.long i1), .second, iv (6:Int32), rv b1_0, rv b3_0, rv b8_0, rv b9, un] [(.int (0:Int32)), (.ref b1_0), (.ref b9), (.ref b8_0)])) rfl rfl (hb hby at_117) _ ?_
  refine st21 _ ?_
  refine iN X21 hx hby at_121 rfl ?_
  refine iC X21 hx hby at_122 ?_
  refine XS.icmpNo X21.here hx rfl (hb hby at_123) rfl (tlt (by decide : (1:Int32) < (6:Int32))).2.2.2 ?_
  refine aL X21 hx hby at_126 rfl rfl ?_
  refine aL X21 hx hby at_128 rfl rfl ?_
  refine aL X21 hx hby at_130 rfl rfl ?_
  refine iC X21 hx hby at_132 ?_
  refine X21.caload hx (j := (1:Int32)) (v := (.int (own_pk i0 i1 (1:Int32)))) Ar23.1 (State.isArrayOf_alike hZ8.alike Ar23.2.1) Ar23.2.2 hin23 (Has.at H23 hin23 rfl) (g := (mkF m 133 #[iv i0, .val (.long i1), .second, iv (6:Int32), rv b1_0, rv b3_0, rv b8_0, rv b9, un] [(.int (1:Int32)), (.ref b1_0), (.ref b9), (.ref b8_0)])) rfl rfl (hb hby at_133) _ ?_
  refine st28 _ ?_
  refine iN X28 hx hby at_137 rfl ?_
  refine iC X28 hx hby at_138 ?_
  refine XS.icmpNo X28.here hx rfl (hb hby at_139) rfl (tlt (by decide : (2:Int32) < (6:Int32))).2.2.2 ?_
  refine aL X28 hx hby at_142 rfl rfl ?_
  refine aL X28 hx hby at_144 rfl rfl ?_
  refine aL X28 hx hby at_146 rfl rfl ?_
  refine iC X28 hx hby at_148 ?_
  refine X28.caload hx (j := (2:Int32)) (v := (.int (own_pk i0 i1 (2:Int32)))) Ar30.1 (State.isArrayOf_alike hZ8.alike Ar30.2.1) Ar30.2.2 hin30 (Has.at H30 hin30 rfl) (g := (mkF m 149 #[iv i0, .val (.long i1), .second, iv (6:Int32), rv b1_0, rv b3_0, rv b8_0, rv b9, un] [(.int (2:Int32)), (.ref b1_0), (.ref b9), (.ref b8_0)])) rfl rfl (hb hby at_149) _ ?_
  refine st35 _ ?_
  refine iN X35 hx hby at_153 rfl ?_
  show St p e below T35 m 154 #[iv i0, .val (.long i1), .second, iv (6:Int32), rv b1_0, rv b3_0, rv b8_0, rv b9, un] [(.int (6:Int32))] _
  refine iC X35 hx hby at_154 ?_
  refine XS.icmpNo X35.here hx rfl (hb hby at_155) rfl (tlt (by decide : (3:Int32) < (6:Int32))).2.2.2 ?_
  refine aL X35 hx hby at_158 rfl rfl ?_
  refine aL X35 hx hby at_160 rfl rfl ?_
  refine aL X35 hx hby at_162 rfl rfl ?_
  refine iC X35 hx hby at_164 ?_
  refine X35.caload hx (j := (3:Int32)) (v := (.int (own_pk i0 i1 (3:Int32)))) Ar37.1 (State.isArrayOf_alike hZ8.alike Ar37.2.1) Ar37.2.2 hin37 (Has.at H37 hin37 rfl) (g := (mkF m 165 #[iv i0, .val (.long i1), .second, iv (6:Int32), rv b1_0, rv b3_0, rv b8_0, rv b9, un] [(.int (3:Int32)), (.ref b1_0), (.ref b9), (.ref b8_0)])) rfl rfl (hb hby at_165) _ ?_
  refine st42 _ ?_
  refine iN X42 hx hby at_169 rfl ?_
  refine iC X42 hx hby at_170 ?_
  refine XS.icmpNo X42.here hx rfl (hb hby at_171) rfl (tlt (by decide : (4:Int32) < (6:Int32))).2.2.2 ?_
  refine aL X42 hx hby at_174 rfl rfl ?_
  refine aL X42 hx hby at_176 rfl rfl ?_
  refine aL X42 hx hby at_178 rfl rfl ?_
  refine iC X42 hx hby at_180 ?_
  refine X42.caload hx (j := (4:Int32)) (v := (.int (own_pk i0 i1 (4:Int32)))) Ar44.1 (State.isArrayOf_alike hZ8.alike Ar44.2.1) Ar44.2.2 hin44 (Has.at H44 hin44 rfl) (g := (mkF m 181 #[iv i0, .val (.long i1), .second, iv (6:Int32), rv b1_0, rv b3_0, rv b8_0, rv b9, un] [(.int (4:Int32)), (.ref b1_0), (.ref b9), (.ref b8_0)])) rfl rfl (hb hby at_181) _ ?_
  refine st49 _ ?_
  refine iN X49 hx hby at_185 rfl ?_
  refine iC X49 hx hby at_186 ?_
  refine XS.icmpNo X49.here hx rfl (hb hby at_187) rfl (tlt (by decide : (5:Int32) < (6:Int32))).2.2.2 ?_
  refine aL X49 hx hby at_190 rfl rfl ?_
  refine aL X49 hx hby at_192 rfl rfl ?_
  refine aL X49 hx hby at_194 rfl rfl ?_
  refine iC X49 hx hby at_196 ?_
  refine X49.caload hx (j := (5:Int32)) (v := (.int (own_pk i0 i1 (5:Int32)))) Ar51.1 (State.isArrayOf_alike hZ8.alike Ar51.2.1) Ar51.2.2 hin51 (Has.at H51 hin51 rfl) (g := (mkF m 197 #[iv i0, .val (.long i1), .second, iv (6:Int32), rv b1_0, rv b3_0, rv b8_0, rv b9, un] [(.int (5:Int32)), (.ref b1_0), (.ref b9), (.ref b8_0)])) rfl rfl (hb hby at_197) _ ?_
  show St p e below T49 m 198 #[iv i0, .val (.long i1), .second, iv (6:Int32), rv b1_0, rv b3_0, rv b8_0, rv b9, un] [(.int (own_pk i0 i1 (5:Int32))), (.ref b9), (.ref b8_0)] _
  refine st56 _ ?_
  refine aL X56 hx hby at_201 rfl rfl ?_
  refine iC X56 hx hby at_203 ?_
  refine X56.iaload hx (j := (0:Int32)) (v := (.int (own_nf (own_nf (own_nf (own_nf (own_nf (own_nf (0:Int32) (own_pk i0 i1 (0:Int32))) (own_pk i0 i1 (1:Int32))) (own_pk i0 i1 (2:Int32))) (own_pk i0 i1 (3:Int32))) (own_pk i0 i1 (4:Int32))) (own_pk i0 i1 (5:Int32))))) Ar58.1 (State.isArrayOf_alike hZ8.alike Ar58.2.1) Ar58.2.2 hin58 (Has.at H58 hin58 rfl) (g := (mkF m 204 #[iv i0, .val (.long i1), .second, iv (6:Int32), rv b1_0, rv b3_0, rv b8_0, rv b9, un] [(.int (0:Int32)), (.ref b9)])) rfl rfl (hb hby at_204) _ ?_
  refine XS.istore X56.here hx rfl (hb hby at_205) rfl (l' := #[iv i0, .val (.long i1), .second, iv (6:Int32), rv b1_0, rv b3_0, rv b8_0, rv b9, iv (own_nf (own_nf (own_nf (own_nf (own_nf (own_nf (0:Int32) (own_pk i0 i1 (0:Int32))) (own_pk i0 i1 (1:Int32))) (own_pk i0 i1 (2:Int32))) (own_pk i0 i1 (3:Int32))) (own_pk i0 i1 (4:Int32))) (own_pk i0 i1 (5:Int32)))]) rfl ?_
  refine aL X56 hx hby at_207 rfl rfl ?_
  refine iC X56 hx hby at_209 ?_
  refine X56.iaload hx (j := (2:Int32)) (v := (.int (1:Int32))) Ar59.1 (State.isArrayOf_alike hZ8.alike Ar59.2.1) Ar59.2.2 hin59 (Has.at H59 hin59 rfl) (g := (mkF m 210 #[iv i0, .val (.long i1), .second, iv (6:Int32), rv b1_0, rv b3_0, rv b8_0, rv b9, iv (own_nf (own_nf (own_nf (own_nf (own_nf (own_nf (0:Int32) (own_pk i0 i1 (0:Int32))) (own_pk i0 i1 (1:Int32))) (own_pk i0 i1 (2:Int32))) (own_pk i0 i1 (3:Int32))) (own_pk i0 i1 (4:Int32))) (own_pk i0 i1 (5:Int32)))] [(.int (2:Int32)), (.ref b9)])) rfl rfl (hb hby at_210) _ ?_
  refine iC X56 hx hby at_211 ?_
  refine XS.icmpNo X56.here hx rfl (hb hby at_212) rfl (teq (rfl : (1:Int32) = (1:Int32))).2 ?_
  refine iL X56 hx hby at_215 rfl ?_
  refine aL X56 hx hby at_217 rfl rfl ?_
  refine own_rlen X56 hx hZ8 f61 rfl (g := (mkF m 219 #[iv i0, .val (.long i1), .second, iv (6:Int32), rv b1_0, rv b3_0, rv b8_0, rv b9, iv (own_nf (own_nf (own_nf (own_nf (own_nf (own_nf (0:Int32) (own_pk i0 i1 (0:Int32))) (own_pk i0 i1 (1:Int32))) (own_pk i0 i1 (2:Int32))) (own_pk i0 i1 (3:Int32))) (own_pk i0 i1 (4:Int32))) (own_pk i0 i1 (5:Int32)))] [(.ref b8_0), (.int (own_nf (own_nf (own_nf (own_nf (own_nf (own_nf (0:Int32) (own_pk i0 i1 (0:Int32))) (own_pk i0 i1 (1:Int32))) (own_pk i0 i1 (2:Int32))) (own_pk i0 i1 (3:Int32))) (own_pk i0 i1 (4:Int32))) (own_pk i0 i1 (5:Int32))))])) rfl rfl (hb hby at_219) _ ?_
  refine iC X56 hx hby at_220 ?_
  refine XS.isub X56.here hx rfl (hb hby at_221) rfl ?_
  refine XS.icmpNo X56.here hx rfl (hb hby at_222) rfl (teq hc62).2 ?_
  refine aL X56 hx hby at_225 rfl rfl ?_
  refine iL X56 hx hby at_227 rfl ?_
  refine st63 _ ?_
  refine XS.ifnullNo X56.here hx rfl (hb hby at_230) rfl ?_
  refine aL X56 hx hby at_233 rfl rfl ?_
  refine iL X56 hx hby at_235 rfl ?_
  refine st65 _ ?_
  refine st66.trans ?_
  refine aL X66 hx hby at_241 rfl rfl ?_
  show St p e below T66 m 243 #[iv i0, .val (.long i1), .second, iv (6:Int32), rv b1_0, rv b3_0, rv b8_0, rv b9, iv (own_nf (own_nf (own_nf (own_nf (own_nf (own_nf (0:Int32) (own_pk i0 i1 (0:Int32))) (own_pk i0 i1 (1:Int32))) (own_pk i0 i1 (2:Int32))) (own_pk i0 i1 (3:Int32))) (own_pk i0 i1 (4:Int32))) (own_pk i0 i1 (5:Int32)))] [(.ref b9), (.int (own_tn (own_nth (own_sp [(own_pk i0 i1 (0:Int32)), (own_pk i0 i1 (1:Int32)), (own_pk i0 i1 (2:Int32)), (own_pk i0 i1 (3:Int32)), (own_pk i0 i1 (4:Int32)), (own_pk i0 i1 (5:Int32))]) (own_nf (own_nf (own_nf (own_nf (own_nf (own_nf (0:Int32) (own_pk i0 i1 (0:Int32))) (own_pk i0 i1 (1:Int32))) (own_pk i0 i1 (2:Int32))) (own_pk i0 i1 (3:Int32))) (own_pk i0 i1 (4:Int32))) (own_pk i0 i1 (5:Int32))))))] _
  refine iC X66 hx hby at_243 ?_
  refine X66.iaload hx (j := (1:Int32)) (v := (.int (own_no (own_no (own_no (own_no (own_no (own_no (0:Int32) (own_pk i0 i1 (0:Int32))) (own_pk i0 i1 (1:Int32))) (own_pk i0 i1 (2:Int32))) (own_pk i0 i1 (3:Int32))) (own_pk i0 i1 (4:Int32))) (own_pk i0 i1 (5:Int32))))) (by rw [e66]; exact Ar67.1) (State.isArrayOf_alike hZ8.alike Ar67.2.1) Ar67.2.2 hin67 (Has.at H67 hin67 rfl) (g := (mkF m 244 #[iv i0, .val (.long i1), .second, iv (6:Int32), rv b1_0, rv b3_0, rv b8_0, rv b9, iv (own_nf (own_nf (own_nf (own_nf (own_nf (own_nf (0:Int32) (own_pk i0 i1 (0:Int32))) (own_pk i0 i1 (1:Int32))) (own_pk i0 i1 (2:Int32))) (own_pk i0 i1 (3:Int32))) (own_pk i0 i1 (4:Int32))) (own_pk i0 i1 (5:Int32)))] [(.int (1:Int32)), (.ref b9), (.int (own_tn (own_nth (own_sp [(own_pk i0 i1 (0:Int32)), (own_pk i0 i1 (1:Int32)), (own_pk i0 i1 (2:Int32)), (own_pk i0 i1 (3:Int32)), (own_pk i0 i1 (4:Int32)), (own_pk i0 i1 (5:Int32))]) (own_nf (own_nf (own_nf (own_nf (own_nf (own_nf (0:Int32) (own_pk i0 i1 (0:Int32))) (own_pk i0 i1 (1:Int32))) (own_pk i0 i1 (2:Int32))) (own_pk i0 i1 (3:Int32))) (own_pk i0 i1 (4:Int32))) (own_pk i0 i1 (5:Int32))))))])) rfl rfl (hb hby at_244) _ ?_
  refine XS.icmpNo X66.here hx rfl (hb hby at_245) rfl (teq hc68).2 ?_
  refine iC X66 hx hby at_248 ?_
  refine XS.goto X66.here hx rfl (pc0 := 249) (pc' := 253) rfl (hb hby at_249) (by decide) (by decide) ?_
  exact retN X66 hx (t := .boolean) Bd.returns (by simp) (hb hby at_253) hr
theorem own_n7 (x:Int32) : (((x.toUInt32 >>> ((6:Int32) &&& 31).toUInt32).toInt32) % (7:Int32)) = (0:Int32) ∨ (((x.toUInt32 >>> ((6:Int32) &&& 31).toUInt32).toInt32) % (7:Int32)) = (1:Int32) ∨ (((x.toUInt32 >>> ((6:Int32) &&& 31).toUInt32).toInt32) % (7:Int32)) = (2:Int32) ∨ (((x.toUInt32 >>> ((6:Int32) &&& 31).toUInt32).toInt32) % (7:Int32)) = (3:Int32) ∨ (((x.toUInt32 >>> ((6:Int32) &&& 31).toUInt32).toInt32) % (7:Int32)) = (4:Int32) ∨ (((x.toUInt32 >>> ((6:Int32) &&& 31).toUInt32).toInt32) % (7:Int32)) = (5:Int32) ∨ (((x.toUInt32 >>> ((6:Int32) &&& 31).toUInt32).toInt32) % (7:Int32)) = (6:Int32) := by
  have a := c_iushr x 6 6 (by decide) (by decide)
  have b := (c_irem ((x.toUInt32 >>> ((6:Int32) &&& 31).toUInt32).toInt32) 7 7 (by decide)).1 (by omega)
  have h0 : (0:Int32).toInt = 0 := rfl
  have h1 : (1:Int32).toInt = 1 := rfl
  have h2 : (2:Int32).toInt = 2 := rfl
  have h3 : (3:Int32).toInt = 3 := rfl
  have h4 : (4:Int32).toInt = 4 := rfl
  have h5 : (5:Int32).toInt = 5 := rfl
  have h6 : (6:Int32).toInt = 6 := rfl
  simp only [← Int32.toInt_inj, h0, h1, h2, h3, h4, h5, h6]
  omega
theorem all_roads (l : Launch) (Z : State) (a0 : Array Value) (hw : ∀ d ∈ tables_1, d.before a0 Z = true) (ws : List Jvm.Cond) (zCOMPACT_STRINGS:Int32) (vF : Value) (B : Base Z zCOMPACT_STRINGS vF) (i0:Int32) (i1 : Int64) (h0 : Heap) (n0 : Nat) (O0 : Old Z n0 h0) :
    MFH l x code maxLocals ret ws room_1 Z #[(.int i0), (.long i1)] h0 (lawQ n0) := by
  rcases own_n7 i0 with g | g | g | g | g | g | g
  · have I0 := own_inv0 [] (Nat.le_of_ble_eq_true rfl)
    have E := own_invE I0
    exact law_1 l Z a0 hw ws zCOMPACT_STRINGS vF B i0 i1 h0 n0 O0 g E.2.1 E.1 E.2.2
  · have I0 := own_inv0 [(own_pk i0 i1 (0:Int32))] (Nat.le_of_ble_eq_true rfl)
    have I1 := own_invS I0
    have E := own_invE I1.2
    exact law_2 l Z a0 hw ws zCOMPACT_STRINGS vF B i0 i1 h0 n0 O0 g I1.1 E.2.1 E.1 E.2.2
  · have I0 := own_inv0 [(own_pk i0 i1 (0:Int32)), (own_pk i0 i1 (1:Int32))] (Nat.le_of_ble_eq_true rfl)
    have I1 := own_invS I0
    have I2 := own_invS I1.2
    have E := own_invE I2.2
    exact law_3 l Z a0 hw ws zCOMPACT_STRINGS vF B i0 i1 h0 n0 O0 g I1.1 I2.1 E.2.1 E.1 E.2.2
  · have I0 := own_inv0 [(own_pk i0 i1 (0:Int32)), (own_pk i0 i1 (1:Int32)), (own_pk i0 i1 (2:Int32))] (Nat.le_of_ble_eq_true rfl)
    have I1 := own_invS I0
    have I2 := own_invS I1.2
    have I3 := own_invS I2.2
    have E := own_invE I3.2
    exact law_4 l Z a0 hw ws zCOMPACT_STRINGS vF B i0 i1 h0 n0 O0 g I1.1 I2.1 I3.1 E.2.1 E.1 E.2.2
  · have I0 := own_inv0 [(own_pk i0 i1 (0:Int32)), (own_pk i0 i1 (1:Int32)), (own_pk i0 i1 (2:Int32)), (own_pk i0 i1 (3:Int32))] (Nat.le_of_ble_eq_true rfl)
    have I1 := own_invS I0
    have I2 := own_invS I1.2
    have I3 := own_invS I2.2
    have I4 := own_invS I3.2
    have E := own_invE I4.2
    exact law_5 l Z a0 hw ws zCOMPACT_STRINGS vF B i0 i1 h0 n0 O0 g I1.1 I2.1 I3.1 I4.1 E.2.1 E.1 E.2.2
  · have I0 := own_inv0 [(own_pk i0 i1 (0:Int32)), (own_pk i0 i1 (1:Int32)), (own_pk i0 i1 (2:Int32)), (own_pk i0 i1 (3:Int32)), (own_pk i0 i1 (4:Int32))] (Nat.le_of_ble_eq_true rfl)
    have I1 := own_invS I0
    have I2 := own_invS I1.2
    have I3 := own_invS I2.2
    have I4 := own_invS I3.2
    have I5 := own_invS I4.2
    have E := own_invE I5.2
    exact law_6 l Z a0 hw ws zCOMPACT_STRINGS vF B i0 i1 h0 n0 O0 g I1.1 I2.1 I3.1 I4.1 I5.1 E.2.1 E.1 E.2.2
  · have I0 := own_inv0 [(own_pk i0 i1 (0:Int32)), (own_pk i0 i1 (1:Int32)), (own_pk i0 i1 (2:Int32)), (own_pk i0 i1 (3:Int32)), (own_pk i0 i1 (4:Int32)), (own_pk i0 i1 (5:Int32))] (Nat.le_of_ble_eq_true rfl)
    have I1 := own_invS I0
    have I2 := own_invS I1.2
    have I3 := own_invS I2.2
    have I4 := own_invS I3.2
    have I5 := own_invS I4.2
    have I6 := own_invS I5.2
    have E := own_invE I6.2
    exact law_7 l Z a0 hw ws zCOMPACT_STRINGS vF B i0 i1 h0 n0 O0 g I1.1 I2.1 I3.1 I4.1 I5.1 I6.1 E.2.1 E.1 E.2.2
theorem comes_1 {Post : Tables → Env → Array Value → State → Outcome → State → Prop} (hpost : ∀ tb e args s v u, (limb_1_1.after args s (.returned v) u = true ∧ limb_1_2.after args s (.returned v) u = true ∧ True) → FramedW s (.returned v) u (Jvm.fieldLocs frame_1_writes args s ++ Jvm.arrayLocs frame_1_arrays args s ++ Jvm.staticLocs frame_1_statics s) 40 2240 → Post tb e args s (.returned v) u) :
    ArmFor flags0 classFile x code maxLocals ret World_1 tables_1 room_1 Calls_1 rest_1 Pre_1 Post := by
  intro l hfl _ _ p e ha hc hk s m args below hf hA hF happ hP
  obtain ⟨hcalls, hrest, hpre⟩ := hP
  obtain ⟨-, -, -, _, -, -, -, hat⟩ := (Spec.applies_iff hf).mp happ
  obtain ⟨hg, _⟩ := and_e (Cond.before_iff.mp (show (Jvm.Cond.and given_1 narrow_1).before args s = true from hpre))
  obtain ⟨gg1, gg2⟩ := and_e hg
  obtain ⟨gg3, gg4⟩ := and_e gg2
  obtain ⟨w0, w1, rfl⟩ : ∃ w0 w1 : Value, args = #[w0, w1] := by
    have hs : args.size = 2 := by simpa [Cond.value, given_1] using gg1
    obtain ⟨L⟩ := args
    match L, hs with
    | [w0, w1], _ => exact ⟨w0, w1, rfl⟩
  have hw := fun d (hd : d ∈ tables_1) => atoms_spec (ws := Jvm.Cond.code x code maxLocals ret :: tables_1) hat d (List.mem_cons_of_mem _ hd)
  have hfit : Fit s := fun {y c} hc i hi => by
    obtain ⟨ha, rfl⟩ := Array.getElem?_eq_some_iff.mp hc
    have q := List.all_eq_true.mp ((Array.all_eq_true_iff_forall_mem.mp hF) _ (Array.getElem_mem ha)) i (List.mem_range.mpr hi)
    simpa [Array.getElem?_eq_getElem hi] using q
  obtain ⟨hsets, _⟩ := atoms_of _ (rest_1_c_eq ▸ (show rest_1_c.before _ s = true from hrest))
  obtain ⟨i0, ei0⟩ := is_v gg3
  obtain rfl : w0 = (.int i0) := Option.some.inj ei0
  obtain ⟨i1, ei1⟩ := isL_v gg4
  obtain rfl : w1 = (.long i1) := Option.some.inj ei1
  obtain ⟨zCOMPACT_STRINGS, ev_zCOMPACT_STRINGS⟩ := is_v (Cond.before_iff.mp (hsets _ (List.mem_of_getElem? (i := 1) rfl)))
  obtain ⟨vF, ev_vF, rF⟩ := isR_v (Cond.before_iff.mp (hsets _ (List.mem_of_getElem? (i := 8) rfl)))
  obtain ⟨hcal1, -⟩ := hcalls
  have hCH : CHv s EL0 s.vm s.heap := CHv.start (own_EW hw) (fun p hp => hcal1 p hp) (hsets _ (List.mem_of_getElem? (i := 2) rfl)) (ow hw 11 rfl) (ow hw 10 rfl)
  have hB : Base s zCOMPACT_STRINGS vF := ⟨Sta.start ev_zCOMPACT_STRINGS (Or.inl (hsets _ (List.mem_of_getElem? (i := 0) rfl))), gotF (Cond.eq_ints ev_zCOMPACT_STRINGS (Term.int_eval 0)) (not_v (Cond.before_iff.mp (hsets _ (List.mem_of_getElem? (i := 2) rfl)))), Sta.start ev_vF (Or.inl (hsets _ (List.mem_of_getElem? (i := 7) rfl))), rF⟩
  obtain ⟨n, _, h1, h2, h3, _, L, rfl, ⟨rfl, N⟩, -, hq⟩ := all_roads l s _ hw tables_1 zCOMPACT_STRINGS vF hB i0 i1 s.heap s.heap.size (Old.start s) p e ha hc hk s m _ below hf ((Spec.applies_iff_loose hf).mp happ).1 ⟨rfl, State.Warmed39.refl s, rfl, hCH⟩ trivial
  refine ⟨n, _, h1, h2, h3, hpost _ _ _ _ _ _ ⟨Cond.after_iff.mpr rfl, Cond.after_iff.mpr (eq_i res_at (Term.int_eval (1)) rfl), trivial⟩ ?_⟩
  exact ⟨hq.1, hq.2.1, hq.2.2.1, (hq.2.2.2.sift fun y hy => Or.inr (N y hy)).mono (by decide) (by decide)⟩
theorem main_1_1 : Claimed_1_1 := comes_1 fun _ _ _ _ _ _ h hF => ⟨h.1, hF⟩
theorem main_1_2 : Claimed_1_2 := comes_1 fun _ _ _ _ _ _ h hF => ⟨h.2.1, hF⟩
end Jvm.Pilot.@@N@@
namespace Jvm.Pilot.@@N@@
open Jvm Jvm.ClassFile Sem Op Lib Jvm.Free Jvm.Stand Jvm.Pilot.@@N@@.Jvm.D
/-! MADE BY PROGRAM (witnessworld.py) out of the Statement's table words and the real class files: 24 classes; the members and pool entries that the words name. The judged class is class 1, her method 1. -/
namespace start1
open Jvm.ClassFile
def u (s : String) : CpInfo := .utf8 (stringToUtf16 s)
/-- a pool by its gaps: so many unusable entries, then the entry; so many at the end -/
def gap : Nat → List CpInfo → List CpInfo
  | 0, r => r
  | n + 1, r => .unusable :: gap n r
def poolList (es : List (Nat × CpInfo)) (last : Nat) : List CpInfo := es.foldr (fun e r => gap e.1 (e.2 :: r)) (gap last [])
def pool (es : List (Nat × CpInfo)) (last : Nat) : Array CpInfo := ⟨poolList es last⟩
def fileOf (pool : Array CpInfo) (this : Nat) (attrs : Array Attribute := #[]) (ms : Array MethodInfo := #[]) (fl : Nat := 33) (sup : Nat := 0) (ifs : Array Nat := #[]) (fds : Array FieldInfo := #[]) : ClassFile where
  minorVersion := 0
  majorVersion := 65
  constantPool := pool
  accessFlags := fl
  thisClass := this
  superClass := sup
  interfaces := ifs
  fields := fds
  methods := ms
  attributes := attrs
def plain (name : String) (sup : Option ClassId) : Class where
  name := name
  kind := .ordinary
  loader := none
  accessFlags := 33
  super := sup
  interfaces := #[]
  cf := none
  fields := #[]
  methods := #[]
  instanceTypes := #[]
  staticTypes := #[]
  resolved := #[]
  callSites := []
  init := .initialized
  statics := none
  mirror := none

def pool0 : Array CpInfo := pool [(5, u "<init>"), (0, u "()V"), (1, .class_ 10), (1, u "java/lang/Object")] 113

def k0c0 : Code := { maxStack := 0, maxLocals := 1, code := object_method_1_code, exceptionTable := #[], attributes := #[] }
def k0m0 : Method := { name := "<init>", desc := "()V", sig := { parameters := [], returnType := none }, accessFlags := 1, code := some k0c0 }
/-- java/lang/Object -/
def k0 : Class := { plain "java/lang/Object" none with
  accessFlags := 33
  interfaces := #[]
  cf := some (fileOf pool0 8 #[] #[{ accessFlags := 1, nameIndex := 5, descriptorIndex := 6, attributes := #[] }] 33 0 #[] #[])
  fields := #[]
  methods := #[k0m0]
  instanceTypes := #[]
  staticTypes := #[]
  resolved := Array.replicate 124 none
  statics := none }

def pool1 : Array CpInfo := pool [(2, .class_ 4), (1, u "java/lang/Object"), (0, u "<init>"), (0, u "()V"), (0, .methodref 8 9), (0, .class_ 10), (0, .nameAndType 11 12), (0, u "com/example/novation/novation/CsvFieldsPinLaw"), (0, u "pick"), (0, u "(IJI)C"), (0, .methodref 8 14), (0, .nameAndType 15 16), (0, u "str"), (0, u "([CI)Ljava/lang/String;"), (0, .methodref 18 19), (0, .class_ 20), (0, .nameAndType 21 22), (0, u "com/example/novation/novation/Csv"), (0, u "fields"), (0, u "(Ljava/lang/String;)[Ljava/lang/String;"), (0, .methodref 8 24), (0, .nameAndType 25 26), (0, u "step"), (0, u "([Ljava/lang/String;[IC)V"), (0, .methodref 28 29), (0, .class_ 30), (0, .nameAndType 31 32), (0, u "java/lang/String"), (0, u "length"), (0, u "()I"), (0, .string 34), (0, u ""), (0, .methodref 28 36), (0, .nameAndType 37 38), (0, u "valueOf"), (0, u "(C)Ljava/lang/String;"), (0, .methodref 28 40), (0, .nameAndType 5 41), (0, u "([C)V"), (0, .methodref 28 43), (0, .nameAndType 44 45), (0, u "charAt"), (0, u "(I)C"), (2, u "law"), (0, u "(IJ)Z")] 9

def k1m0 : Method := { name := "<init>", desc := "()V", sig := { parameters := [], returnType := none }, accessFlags := 2, code := none }
def k1c1 : Code := { maxStack := 6, maxLocals := 9, code := code, exceptionTable := #[], attributes := #[] }
def k1m1 : Method := { name := "law", desc := "(IJ)Z", sig := { parameters := [.int, .long], returnType := some .boolean }, accessFlags := 9, code := some k1c1 }
def k1c2 : Code := { maxStack := 4, maxLocals := 4, code := method_3_code, exceptionTable := #[], attributes := #[] }
def k1m2 : Method := { name := "pick", desc := "(IJI)C", sig := { parameters := [.int, .long, .int], returnType := some .char }, accessFlags := 10, code := some k1c2 }
def k1c3 : Code := { maxStack := 7, maxLocals := 2, code := method_4_code, exceptionTable := #[], attributes := #[] }
def k1m3 : Method := { name := "str", desc := "([CI)Ljava/lang/String;", sig := { parameters := [(.array .char), .int], returnType := some (.object "java/lang/String") }, accessFlags := 10, code := some k1c3 }
def k1c4 : Code := { maxStack := 4, maxLocals := 5, code := method_5_code, exceptionTable := #[], attributes := #[] }
def k1m4 : Method := { name := "step", desc := "([Ljava/lang/String;[IC)V", sig := { parameters := [(.array (.object "java/lang/String")), (.array .int), .char], returnType := none }, accessFlags := 10, code := some k1c4 }
/-- com/example/novation/novation/CsvFieldsPinLaw -/
def k1 : Class := { plain "com/example/novation/novation/CsvFieldsPinLaw" (some 0) with
  accessFlags := 49
  interfaces := #[]
  cf := some (fileOf pool1 8 #[] #[{ accessFlags := 2, nameIndex := 5, descriptorIndex := 6, attributes := #[] }, { accessFlags := 9, nameIndex := 48, descriptorIndex := 49, attributes := #[] }, { accessFlags := 10, nameIndex := 11, descriptorIndex := 12, attributes := #[] }, { accessFlags := 10, nameIndex := 15, descriptorIndex := 16, attributes := #[] }, { accessFlags := 10, nameIndex := 25, descriptorIndex := 26, attributes := #[] }] 49 2 #[] #[])
  fields := #[]
  methods := #[k1m0, k1m1, k1m2, k1m3, k1m4]
  instanceTypes := #[]
  staticTypes := #[]
  resolved := Array.replicate 59 none
  statics := none }

def pool2 : Array CpInfo := pool [(1, .class_ 2), (0, u "java/io/Serializable"), (0, .class_ 4), (0, u "java/lang/Object")] 2

/-- java/io/Serializable -/
def k2 : Class := { plain "java/io/Serializable" (some 0) with
  accessFlags := 1537
  interfaces := #[]
  cf := some (fileOf pool2 1 #[] #[] 1537 3 #[] #[])
  fields := #[]
  methods := #[]
  instanceTypes := #[]
  staticTypes := #[]
  resolved := Array.replicate 7 none
  statics := none }

def pool3 : Array CpInfo := pool [(1, .class_ 2), (0, u "java/lang/Comparable"), (0, .class_ 4), (0, u "java/lang/Object")] 7

/-- java/lang/Comparable -/
def k3 : Class := { plain "java/lang/Comparable" (some 0) with
  accessFlags := 1537
  interfaces := #[]
  cf := some (fileOf pool3 1 #[] #[] 1537 3 #[] #[])
  fields := #[]
  methods := #[]
  instanceTypes := #[]
  staticTypes := #[]
  resolved := Array.replicate 12 none
  statics := none }

def pool4 : Array CpInfo := pool [(2, .class_ 4), (1, u "java/lang/CharSequence"), (42, .class_ 48), (0, u "java/lang/CharSequence$1CodePointIterator"), (10, .class_ 60), (0, u "java/lang/CharSequence$1CharIterator"), (5, .class_ 67), (0, u "java/lang/Object")] 63

/-- java/lang/CharSequence -/
def k4 : Class := { plain "java/lang/CharSequence" (some 0) with
  accessFlags := 1537
  interfaces := #[]
  cf := some (fileOf pool4 2 #[.nestMembers #[47, 59]] #[] 1537 66 #[] #[])
  fields := #[]
  methods := #[]
  instanceTypes := #[]
  staticTypes := #[]
  resolved := Array.replicate 131 none
  statics := none }

def pool5 : Array CpInfo := pool [(1, .class_ 2), (0, u "java/lang/constant/Constable"), (0, .class_ 4), (0, u "java/lang/Object")] 6

/-- java/lang/constant/Constable -/
def k5 : Class := { plain "java/lang/constant/Constable" (some 0) with
  accessFlags := 1537
  interfaces := #[]
  cf := some (fileOf pool5 1 #[] #[] 1537 3 #[] #[])
  fields := #[]
  methods := #[]
  instanceTypes := #[]
  staticTypes := #[]
  resolved := Array.replicate 11 none
  statics := none }

def pool6 : Array CpInfo := pool [(1, .class_ 2), (0, u "java/lang/constant/ConstantDesc"), (0, .class_ 4), (0, u "java/lang/Object")] 32

/-- java/lang/constant/ConstantDesc -/
def k6 : Class := { plain "java/lang/constant/ConstantDesc" (some 0) with
  accessFlags := 1537
  interfaces := #[]
  cf := some (fileOf pool6 1 #[] #[] 1537 3 #[] #[])
  fields := #[]
  methods := #[]
  instanceTypes := #[]
  staticTypes := #[]
  resolved := Array.replicate 37 none
  statics := none }

def pool7 : Array CpInfo := pool [(1, .methodref 2 3), (0, .class_ 4), (0, .nameAndType 5 6), (0, u "java/lang/Object"), (0, u "<init>"), (0, u "()V"), (2, .fieldref 10 11), (0, .class_ 12), (0, .nameAndType 13 14), (0, u "java/lang/String"), (0, u "value"), (0, u "[B"), (0, .fieldref 10 16), (0, .nameAndType 17 18), (0, u "coder"), (0, u "B"), (2, u "hash"), (0, u "I"), (2, u "hashIsZero"), (0, u "Z"), (0, .methodref 10 28), (0, .nameAndType 5 29), (0, u "([CIILjava/lang/Void;)V"), (8, .fieldref 10 39), (0, .nameAndType 40 26), (0, u "COMPACT_STRINGS"), (1, .class_ 44), (1, u "java/lang/StringUTF16"), (0, u "compress"), (1, .methodref 42 48), (0, .nameAndType 49 50), (0, u "coderFromArrayLen"), (0, u "([BI)B"), (2, u "toBytes"), (53, .class_ 109), (1, u "java/lang/StringLatin1"), (32, u "()Z"), (34, .methodref 42 178), (0, .nameAndType 45 179), (0, u "([CII)[B"), (29, .methodref 10 210), (0, .nameAndType 5 211), (0, u "([BB)V"), (122, u "()I"), (0, .methodref 10 336), (0, .nameAndType 17 337), (0, u "()B"), (25, u "([BI)C"), (5, u "(C)Z"), (21, u "(II)V"), (35, u "(I)C"), (64, .methodref 10 493), (0, .nameAndType 494 142), (0, u "isLatin1"), (0, .methodref 107 496), (0, .nameAndType 497 363), (0, u "charAt"), (3, u "checkIndex"), (3, .methodref 10 506), (0, .nameAndType 507 334), (0, u "length"), (5, u "checkFromToIndex"), (7, .methodref 10 522), (0, .nameAndType 523 524), (0, u "checkBoundsBeginEnd"), (0, u "(III)V"), (50, .class_ 576), (0, u "java/lang/CharSequence"), (22, u "CASE_INSENSITIVE_ORDER"), (0, u "Ljava/util/Comparator;"), (32, .methodref 10 634), (0, .nameAndType 635 636), (0, u "indexOf"), (0, u "(II)I"), (0, .methodref 107 638), (0, .nameAndType 635 639), (0, u "([BIII)I"), (41, .methodref 10 682), (0, .nameAndType 683 684), (0, u "substring"), (0, u "(II)Ljava/lang/String;"), (0, .methodref 107 686), (0, .nameAndType 687 688), (0, u "newString"), (0, u "([BII)Ljava/lang/String;"), (76, u "(I)I"), (16, u "valueOf"), (0, u "(C)Ljava/lang/String;"), (108, u "(I)Ljava/lang/String;"), (117, u "([C)V"), (4, .methodref 107 1016), (0, .nameAndType 1017 369), (0, u "canEncode"), (0, .methodref 107 1019), (0, .nameAndType 53 1020), (0, u "(C)[B"), (32, .fieldref 1054 1055), (0, .class_ 1056), (0, .nameAndType 1057 1058), (0, u "jdk/internal/util/Preconditions"), (0, u "SIOOBE_FORMATTER"), (0, u "Ljava/util/function/BiFunction;"), (0, .methodref 1054 1060), (0, .nameAndType 501 1061), (0, u "(IILjava/util/function/BiFunction;)I"), (0, .methodref 1054 1063), (0, .nameAndType 513 1064), (0, u "(IIILjava/util/function/BiFunction;)I"), (36, u "serialPersistentFields"), (0, u "[Ljava/io/ObjectStreamField;"), (0, .class_ 1104), (0, u "java/lang/String$CaseInsensitiveComparator"), (1, .class_ 1107), (0, u "java/io/Serializable"), (0, .class_ 1109), (0, u "java/lang/Comparable"), (0, .class_ 1111), (0, u "java/lang/constant/Constable"), (0, .class_ 1113), (0, u "java/lang/constant/ConstantDesc"), (2, u "serialVersionUID"), (0, u "J"), (3, u "REPL"), (0, u "C"), (2, u "LATIN1"), (1, u "UTF16")] 323

def k7m0 : Method := { name := "<init>", desc := "()V", sig := { parameters := [], returnType := none }, accessFlags := 1, code := none }
def k7c1 : Code := { maxStack := 5, maxLocals := 2, code := jdk_42_method_3_code, exceptionTable := #[], attributes := #[] }
def k7m1 : Method := { name := "<init>", desc := "([C)V", sig := { parameters := [(.array .char)], returnType := none }, accessFlags := 1, code := some k7c1 }
def k7c2 : Code := { maxStack := 2, maxLocals := 1, code := jdk_42_method_54_code, exceptionTable := #[], attributes := #[] }
def k7m2 : Method := { name := "length", desc := "()I", sig := { parameters := [], returnType := some .int }, accessFlags := 1, code := some k7c2 }
def k7c3 : Code := { maxStack := 2, maxLocals := 2, code := jdk_42_method_56_code, exceptionTable := #[], attributes := #[] }
def k7m3 : Method := { name := "charAt", desc := "(I)C", sig := { parameters := [.int], returnType := some .char }, accessFlags := 1, code := some k7c3 }
def k7c4 : Code := { maxStack := 3, maxLocals := 2, code := jdk_42_method_79_code, exceptionTable := #[], attributes := #[] }
def k7m4 : Method := { name := "indexOf", desc := "(I)I", sig := { parameters := [.int], returnType := some .int }, accessFlags := 1, code := some k7c4 }
def k7c5 : Code := { maxStack := 4, maxLocals := 3, code := jdk_42_method_80_code, exceptionTable := #[], attributes := #[] }
def k7m5 : Method := { name := "indexOf", desc := "(II)I", sig := { parameters := [.int, .int], returnType := some .int }, accessFlags := 1, code := some k7c5 }
def k7c6 : Code := { maxStack := 3, maxLocals := 2, code := jdk_42_method_91_code, exceptionTable := #[], attributes := #[] }
def k7m6 : Method := { name := "substring", desc := "(I)Ljava/lang/String;", sig := { parameters := [.int], returnType := some (.object "java/lang/String") }, accessFlags := 1, code := some k7c6 }
def k7c7 : Code := { maxStack := 3, maxLocals := 5, code := jdk_42_method_92_code, exceptionTable := #[], attributes := #[] }
def k7m7 : Method := { name := "substring", desc := "(II)Ljava/lang/String;", sig := { parameters := [.int, .int], returnType := some (.object "java/lang/String") }, accessFlags := 1, code := some k7c7 }
def k7c8 : Code := { maxStack := 4, maxLocals := 1, code := jdk_42_method_139_code, exceptionTable := #[], attributes := #[] }
def k7m8 : Method := { name := "valueOf", desc := "(C)Ljava/lang/String;", sig := { parameters := [.char], returnType := some (.object "java/lang/String") }, accessFlags := 9, code := some k7c8 }
def k7c9 : Code := { maxStack := 4, maxLocals := 6, code := jdk_42_method_149_code, exceptionTable := #[], attributes := #[] }
def k7m9 : Method := { name := "<init>", desc := "([CIILjava/lang/Void;)V", sig := { parameters := [(.array .char), .int, .int, (.object "java/lang/Void")], returnType := none }, accessFlags := 2, code := some k7c9 }
def k7c10 : Code := { maxStack := 2, maxLocals := 3, code := jdk_42_method_151_code, exceptionTable := #[], attributes := #[] }
def k7m10 : Method := { name := "<init>", desc := "([BB)V", sig := { parameters := [(.array .byte), .byte], returnType := none }, accessFlags := 0, code := some k7c10 }
def k7c11 : Code := { maxStack := 1, maxLocals := 1, code := jdk_42_method_152_code, exceptionTable := #[], attributes := #[] }
def k7m11 : Method := { name := "coder", desc := "()B", sig := { parameters := [], returnType := some .byte }, accessFlags := 0, code := some k7c11 }
def k7c12 : Code := { maxStack := 1, maxLocals := 1, code := jdk_42_method_154_code, exceptionTable := #[], attributes := #[] }
def k7m12 : Method := { name := "isLatin1", desc := "()Z", sig := { parameters := [], returnType := some .boolean }, accessFlags := 0, code := some k7c12 }
def k7c13 : Code := { maxStack := 3, maxLocals := 2, code := jdk_42_method_155_code, exceptionTable := #[], attributes := #[] }
def k7m13 : Method := { name := "checkIndex", desc := "(II)V", sig := { parameters := [.int, .int], returnType := none }, accessFlags := 8, code := some k7c13 }
def k7c14 : Code := { maxStack := 4, maxLocals := 3, code := jdk_42_method_158_code, exceptionTable := #[], attributes := #[] }
def k7m14 : Method := { name := "checkBoundsBeginEnd", desc := "(III)V", sig := { parameters := [.int, .int, .int], returnType := none }, accessFlags := 8, code := some k7c14 }
/-- java/lang/String -/
def k7 : Class := { plain "java/lang/String" (some 0) with
  accessFlags := 49
  interfaces := #[2, 3, 4, 5, 6]
  cf := some (fileOf pool7 10 #[.nestMembers #[1103]] #[{ accessFlags := 1, nameIndex := 5, descriptorIndex := 6, attributes := #[] }, { accessFlags := 1, nameIndex := 5, descriptorIndex := 1010, attributes := #[] }, { accessFlags := 1, nameIndex := 507, descriptorIndex := 334, attributes := #[] }, { accessFlags := 1, nameIndex := 497, descriptorIndex := 427, attributes := #[] }, { accessFlags := 1, nameIndex := 635, descriptorIndex := 765, attributes := #[] }, { accessFlags := 1, nameIndex := 635, descriptorIndex := 636, attributes := #[] }, { accessFlags := 1, nameIndex := 683, descriptorIndex := 892, attributes := #[] }, { accessFlags := 1, nameIndex := 683, descriptorIndex := 684, attributes := #[] }, { accessFlags := 9, nameIndex := 782, descriptorIndex := 783, attributes := #[] }, { accessFlags := 2, nameIndex := 5, descriptorIndex := 29, attributes := #[] }, { accessFlags := 0, nameIndex := 5, descriptorIndex := 211, attributes := #[] }, { accessFlags := 0, nameIndex := 17, descriptorIndex := 337, attributes := #[] }, { accessFlags := 0, nameIndex := 494, descriptorIndex := 142, attributes := #[] }, { accessFlags := 8, nameIndex := 501, descriptorIndex := 391, attributes := #[] }, { accessFlags := 8, nameIndex := 523, descriptorIndex := 524, attributes := #[] }] 49 2 #[1106, 1108, 575, 1110, 1112] #[{ accessFlags := 18, nameIndex := 13, descriptorIndex := 14, attributes := #[] }, { accessFlags := 18, nameIndex := 17, descriptorIndex := 18, attributes := #[] }, { accessFlags := 2, nameIndex := 21, descriptorIndex := 22, attributes := #[] }, { accessFlags := 2, nameIndex := 25, descriptorIndex := 26, attributes := #[] }, { accessFlags := 26, nameIndex := 1116, descriptorIndex := 1117, attributes := #[] }, { accessFlags := 24, nameIndex := 40, descriptorIndex := 26, attributes := #[] }, { accessFlags := 26, nameIndex := 1101, descriptorIndex := 1102, attributes := #[] }, { accessFlags := 26, nameIndex := 1121, descriptorIndex := 1122, attributes := #[] }, { accessFlags := 25, nameIndex := 599, descriptorIndex := 600, attributes := #[] }, { accessFlags := 24, nameIndex := 1125, descriptorIndex := 18, attributes := #[] }, { accessFlags := 24, nameIndex := 1127, descriptorIndex := 18, attributes := #[] }])
  fields := #[{ name := "value", type := (.array .byte), accessFlags := 18, slot := 0, constantValue := 0 }, { name := "coder", type := .byte, accessFlags := 18, slot := 1, constantValue := 0 }, { name := "hash", type := .int, accessFlags := 2, slot := 2, constantValue := 0 }, { name := "hashIsZero", type := .boolean, accessFlags := 2, slot := 3, constantValue := 0 }, { name := "serialVersionUID", type := .long, accessFlags := 26, slot := 0, constantValue := 0 }, { name := "COMPACT_STRINGS", type := .boolean, accessFlags := 24, slot := 1, constantValue := 0 }, { name := "serialPersistentFields", type := (.array (.object "java/io/ObjectStreamField")), accessFlags := 26, slot := 2, constantValue := 0 }, { name := "REPL", type := .char, accessFlags := 26, slot := 3, constantValue := 0 }, { name := "CASE_INSENSITIVE_ORDER", type := (.object "java/util/Comparator"), accessFlags := 25, slot := 4, constantValue := 0 }, { name := "LATIN1", type := .byte, accessFlags := 24, slot := 5, constantValue := 0 }, { name := "UTF16", type := .byte, accessFlags := 24, slot := 6, constantValue := 0 }]
  methods := #[k7m0, k7m1, k7m2, k7m3, k7m4, k7m5, k7m6, k7m7, k7m8, k7m9, k7m10, k7m11, k7m12, k7m13, k7m14]
  instanceTypes := #[(.array .byte), .byte, .int, .boolean]
  staticTypes := #[.long, .boolean, (.array (.object "java/io/ObjectStreamField")), .char, (.object "java/util/Comparator"), .byte, .byte]
  resolved := Array.replicate 1451 none
  statics := some 0 }

def pool8 : Array CpInfo := pool [(2, .class_ 4), (1, u "java/lang/Object"), (0, u "<init>"), (0, u "()V"), (0, .methodref 8 9), (0, .class_ 10), (0, .nameAndType 11 12), (0, u "com/example/novation/novation/Csv"), (0, u "commas"), (0, u "(Ljava/lang/String;)I"), (0, .class_ 14), (0, u "java/lang/String"), (0, .methodref 13 16), (0, .nameAndType 17 18), (0, u "indexOf"), (0, u "(II)I"), (0, .methodref 13 20), (0, .nameAndType 21 22), (0, u "substring"), (0, u "(II)Ljava/lang/String;"), (0, .methodref 13 24), (0, .nameAndType 21 25), (0, u "(I)Ljava/lang/String;"), (106, .methodref 13 133), (0, .nameAndType 17 134), (0, u "(I)I"), (2, u "fields"), (0, u "(Ljava/lang/String;)[Ljava/lang/String;")] 28

def k8m0 : Method := { name := "<init>", desc := "()V", sig := { parameters := [], returnType := none }, accessFlags := 2, code := none }
def k8c1 : Code := { maxStack := 5, maxLocals := 5, code := prog_22_method_2_code, exceptionTable := #[], attributes := #[] }
def k8m1 : Method := { name := "fields", desc := "(Ljava/lang/String;)[Ljava/lang/String;", sig := { parameters := [(.object "java/lang/String")], returnType := some (.array (.object "java/lang/String")) }, accessFlags := 8, code := some k8c1 }
def k8c2 : Code := { maxStack := 4, maxLocals := 3, code := prog_22_method_6_code, exceptionTable := #[], attributes := #[] }
def k8m2 : Method := { name := "commas", desc := "(Ljava/lang/String;)I", sig := { parameters := [(.object "java/lang/String")], returnType := some .int }, accessFlags := 10, code := some k8c2 }
/-- com/example/novation/novation/Csv -/
def k8 : Class := { plain "com/example/novation/novation/Csv" (some 0) with
  accessFlags := 49
  interfaces := #[]
  cf := some (fileOf pool8 8 #[] #[{ accessFlags := 2, nameIndex := 5, descriptorIndex := 6, attributes := #[] }, { accessFlags := 8, nameIndex := 137, descriptorIndex := 138, attributes := #[] }, { accessFlags := 10, nameIndex := 11, descriptorIndex := 12, attributes := #[] }] 49 2 #[] #[])
  fields := #[]
  methods := #[k8m0, k8m1, k8m2]
  instanceTypes := #[]
  staticTypes := #[]
  resolved := Array.replicate 167 none
  statics := none }

def pool9 : Array CpInfo := pool [(1, .class_ 2), (0, u "java/lang/String"), (1, .class_ 6), (1, u "java/lang/Object"), (0, u "<init>"), (0, u "()V"), (0, .methodref 1 10), (0, .nameAndType 11 12), (0, u "checkIndex"), (0, u "(II)V"), (1, .class_ 16), (1, u "java/lang/StringLatin1"), (21, .methodref 39 40), (0, .class_ 41), (0, .nameAndType 42 43), (0, u "java/lang/Math"), (0, u "min"), (0, u "(II)I"), (9, u "([BI)C"), (34, .methodref 14 89), (0, .nameAndType 90 91), (0, u "canEncode"), (0, u "(I)Z"), (0, .methodref 39 93), (0, .nameAndType 94 43), (0, u "max"), (0, .methodref 14 96), (0, .nameAndType 97 98), (0, u "indexOfChar"), (0, u "([BIII)I"), (2, u "indexOf"), (3, u "(C)Z"), (6, .methodref 1 113), (0, .nameAndType 7 114), (0, u "([BB)V"), (6, u "$assertionsDisabled"), (0, u "Z"), (8, .class_ 133), (1, u "java/util/Arrays"), (17, .string 152), (0, u ""), (43, u "newString"), (0, u "([BII)Ljava/lang/String;"), (23, .class_ 223), (1, u "java/lang/StringLatin1$LinesSpliterator"), (8, .methodref 131 233), (0, .nameAndType 234 235), (0, u "copyOfRange"), (0, u "([BII)[B"), (16, u "charAt"), (127, u "toBytes"), (1, u "(C)[B"), (7, .class_ 391), (0, u "java/lang/StringLatin1$CharsSpliterator")] 3

def k9m0 : Method := { name := "<init>", desc := "()V", sig := { parameters := [], returnType := none }, accessFlags := 0, code := none }
def k9c1 : Code := { maxStack := 2, maxLocals := 2, code := jdk_43_method_2_code, exceptionTable := #[], attributes := #[] }
def k9m1 : Method := { name := "charAt", desc := "([BI)C", sig := { parameters := [(.array .byte), .int], returnType := some .char }, accessFlags := 9, code := some k9c1 }
def k9c2 : Code := { maxStack := 2, maxLocals := 1, code := jdk_43_method_3_code, exceptionTable := #[], attributes := #[] }
def k9m2 : Method := { name := "canEncode", desc := "(C)Z", sig := { parameters := [.char], returnType := some .boolean }, accessFlags := 9, code := some k9c2 }
def k9c3 : Code := { maxStack := 2, maxLocals := 1, code := jdk_43_method_4_code, exceptionTable := #[], attributes := #[] }
def k9m3 : Method := { name := "canEncode", desc := "(I)Z", sig := { parameters := [.int], returnType := some .boolean }, accessFlags := 9, code := some k9c3 }
def k9c4 : Code := { maxStack := 4, maxLocals := 4, code := jdk_43_method_22_code, exceptionTable := #[], attributes := #[] }
def k9m4 : Method := { name := "indexOf", desc := "([BIII)I", sig := { parameters := [(.array .byte), .int, .int, .int], returnType := some .int }, accessFlags := 9, code := some k9c4 }
def k9c5 : Code := { maxStack := 2, maxLocals := 6, code := jdk_43_method_23_code, exceptionTable := #[], attributes := #[] }
def k9m5 : Method := { name := "indexOfChar", desc := "([BIII)I", sig := { parameters := [(.array .byte), .int, .int, .int], returnType := some .int }, accessFlags := 10, code := some k9c5 }
def k9c6 : Code := { maxStack := 4, maxLocals := 1, code := jdk_43_method_46_code, exceptionTable := #[], attributes := #[] }
def k9m6 : Method := { name := "toBytes", desc := "(C)[B", sig := { parameters := [.char], returnType := some (.array .byte) }, accessFlags := 9, code := some k9c6 }
def k9c7 : Code := { maxStack := 6, maxLocals := 3, code := jdk_43_method_47_code, exceptionTable := #[], attributes := #[] }
def k9m7 : Method := { name := "newString", desc := "([BII)Ljava/lang/String;", sig := { parameters := [(.array .byte), .int, .int], returnType := some (.object "java/lang/String") }, accessFlags := 9, code := some k9c7 }
/-- java/lang/StringLatin1 -/
def k9 : Class := { plain "java/lang/StringLatin1" (some 0) with
  accessFlags := 48
  interfaces := #[]
  cf := some (fileOf pool9 14 #[.nestMembers #[390, 221]] #[{ accessFlags := 0, nameIndex := 7, descriptorIndex := 8, attributes := #[] }, { accessFlags := 9, nameIndex := 252, descriptorIndex := 53, attributes := #[] }, { accessFlags := 9, nameIndex := 90, descriptorIndex := 105, attributes := #[] }, { accessFlags := 9, nameIndex := 90, descriptorIndex := 91, attributes := #[] }, { accessFlags := 9, nameIndex := 101, descriptorIndex := 98, attributes := #[] }, { accessFlags := 10, nameIndex := 97, descriptorIndex := 98, attributes := #[] }, { accessFlags := 9, nameIndex := 380, descriptorIndex := 382, attributes := #[] }, { accessFlags := 9, nameIndex := 196, descriptorIndex := 197, attributes := #[] }] 48 4 #[] #[{ accessFlags := 4120, nameIndex := 121, descriptorIndex := 122, attributes := #[] }])
  fields := #[{ name := "$assertionsDisabled", type := .boolean, accessFlags := 4120, slot := 0, constantValue := 0 }]
  methods := #[k9m0, k9m1, k9m2, k9m3, k9m4, k9m5, k9m6, k9m7]
  instanceTypes := #[]
  staticTypes := #[.boolean]
  resolved := Array.replicate 395 none
  statics := none }

def pool10 : Array CpInfo := pool [(1, .class_ 2), (0, u "java/lang/Math"), (1, .class_ 6), (1, u "java/lang/Object"), (0, u "<init>"), (0, u "()V"), (89, .class_ 100), (1, u "java/lang/Math$RandomNumberGeneratorHolder"), (71, u "negativeZeroFloatBits"), (0, u "J"), (2, u "negativeZeroDoubleBits"), (21, u "max"), (2, u "min"), (43, u "$assertionsDisabled"), (0, u "Z"), (88, u "(II)I"), (2, u "twoToTheDoubleScaleDown"), (0, u "D"), (4, u "twoToTheDoubleScaleUp"), (9, u "E"), (3, u "PI"), (2, u "TAU"), (2, u "DEGREES_TO_RADIANS"), (0, u "RADIANS_TO_DEGREES")] 94

def k10m0 : Method := { name := "<init>", desc := "()V", sig := { parameters := [], returnType := none }, accessFlags := 2, code := none }
def k10c1 : Code := { maxStack := 2, maxLocals := 2, code := jdk_29_method_65_code, exceptionTable := #[], attributes := #[] }
def k10m1 : Method := { name := "max", desc := "(II)I", sig := { parameters := [.int, .int], returnType := some .int }, accessFlags := 9, code := some k10c1 }
def k10c2 : Code := { maxStack := 2, maxLocals := 2, code := jdk_29_method_69_code, exceptionTable := #[], attributes := #[] }
def k10m2 : Method := { name := "min", desc := "(II)I", sig := { parameters := [.int, .int], returnType := some .int }, accessFlags := 9, code := some k10c2 }
/-- java/lang/Math -/
def k10 : Class := { plain "java/lang/Math" (some 0) with
  accessFlags := 49
  interfaces := #[]
  cf := some (fileOf pool10 1 #[.nestMembers #[98]] #[{ accessFlags := 2, nameIndex := 7, descriptorIndex := 8, attributes := #[] }, { accessFlags := 9, nameIndex := 198, descriptorIndex := 335, attributes := #[] }, { accessFlags := 9, nameIndex := 201, descriptorIndex := 335, attributes := #[] }] 49 4 #[] #[{ accessFlags := 25, nameIndex := 354, descriptorIndex := 339, attributes := #[] }, { accessFlags := 25, nameIndex := 358, descriptorIndex := 339, attributes := #[] }, { accessFlags := 25, nameIndex := 361, descriptorIndex := 339, attributes := #[] }, { accessFlags := 26, nameIndex := 364, descriptorIndex := 339, attributes := #[] }, { accessFlags := 26, nameIndex := 365, descriptorIndex := 339, attributes := #[] }, { accessFlags := 26, nameIndex := 172, descriptorIndex := 173, attributes := #[] }, { accessFlags := 26, nameIndex := 176, descriptorIndex := 173, attributes := #[] }, { accessFlags := 8, nameIndex := 344, descriptorIndex := 339, attributes := #[] }, { accessFlags := 8, nameIndex := 338, descriptorIndex := 339, attributes := #[] }, { accessFlags := 4120, nameIndex := 245, descriptorIndex := 246, attributes := #[] }])
  fields := #[{ name := "E", type := .double, accessFlags := 25, slot := 0, constantValue := 0 }, { name := "PI", type := .double, accessFlags := 25, slot := 1, constantValue := 0 }, { name := "TAU", type := .double, accessFlags := 25, slot := 2, constantValue := 0 }, { name := "DEGREES_TO_RADIANS", type := .double, accessFlags := 26, slot := 3, constantValue := 0 }, { name := "RADIANS_TO_DEGREES", type := .double, accessFlags := 26, slot := 4, constantValue := 0 }, { name := "negativeZeroFloatBits", type := .long, accessFlags := 26, slot := 5, constantValue := 0 }, { name := "negativeZeroDoubleBits", type := .long, accessFlags := 26, slot := 6, constantValue := 0 }, { name := "twoToTheDoubleScaleUp", type := .double, accessFlags := 8, slot := 7, constantValue := 0 }, { name := "twoToTheDoubleScaleDown", type := .double, accessFlags := 8, slot := 8, constantValue := 0 }, { name := "$assertionsDisabled", type := .boolean, accessFlags := 4120, slot := 9, constantValue := 0 }]
  methods := #[k10m0, k10m1, k10m2]
  instanceTypes := #[]
  staticTypes := #[.double, .double, .double, .double, .double, .long, .long, .double, .double, .boolean]
  resolved := Array.replicate 460 none
  statics := none }

def pool11 : Array CpInfo := pool [(2, .class_ 4), (1, u "java/lang/Object"), (0, u "<init>"), (0, u "()V"), (17, .class_ 26), (1, u "jdk/internal/util/Preconditions"), (6, u "checkIndex"), (13, u "checkFromToIndex"), (7, .class_ 56), (0, u "jdk/internal/util/Preconditions$4"), (57, .class_ 115), (0, u "jdk/internal/util/Preconditions$1"), (7, u "SIOOBE_FORMATTER"), (0, u "Ljava/util/function/BiFunction;"), (0, .class_ 126), (0, u "jdk/internal/util/Preconditions$2"), (3, u "AIOOBE_FORMATTER"), (0, .class_ 132), (0, u "jdk/internal/util/Preconditions$3"), (3, u "IOOBE_FORMATTER"), (41, u "(IILjava/util/function/BiFunction;)I"), (4, u "(IIILjava/util/function/BiFunction;)I")] 10

def k11m0 : Method := { name := "<init>", desc := "()V", sig := { parameters := [], returnType := none }, accessFlags := 1, code := none }
def k11c1 : Code := { maxStack := 3, maxLocals := 3, code := jdk_41_method_11_code, exceptionTable := #[], attributes := #[] }
def k11m1 : Method := { name := "checkIndex", desc := "(IILjava/util/function/BiFunction;)I", sig := { parameters := [.int, .int, (.object "java/util/function/BiFunction")], returnType := some .int }, accessFlags := 9, code := some k11c1 }
def k11c2 : Code := { maxStack := 4, maxLocals := 4, code := jdk_41_method_12_code, exceptionTable := #[], attributes := #[] }
def k11m2 : Method := { name := "checkFromToIndex", desc := "(IIILjava/util/function/BiFunction;)I", sig := { parameters := [.int, .int, .int, (.object "java/util/function/BiFunction")], returnType := some .int }, accessFlags := 9, code := some k11c2 }
/-- jdk/internal/util/Preconditions -/
def k11 : Class := { plain "jdk/internal/util/Preconditions" (some 0) with
  accessFlags := 33
  interfaces := #[]
  cf := some (fileOf pool11 24 #[.nestMembers #[55, 131, 125, 114]] #[{ accessFlags := 1, nameIndex := 5, descriptorIndex := 6, attributes := #[] }, { accessFlags := 9, nameIndex := 33, descriptorIndex := 178, attributes := #[] }, { accessFlags := 9, nameIndex := 47, descriptorIndex := 183, attributes := #[] }] 33 2 #[] #[{ accessFlags := 25, nameIndex := 123, descriptorIndex := 124, attributes := #[] }, { accessFlags := 25, nameIndex := 130, descriptorIndex := 124, attributes := #[] }, { accessFlags := 25, nameIndex := 136, descriptorIndex := 124, attributes := #[] }])
  fields := #[{ name := "SIOOBE_FORMATTER", type := (.object "java/util/function/BiFunction"), accessFlags := 25, slot := 0, constantValue := 0 }, { name := "AIOOBE_FORMATTER", type := (.object "java/util/function/BiFunction"), accessFlags := 25, slot := 1, constantValue := 0 }, { name := "IOOBE_FORMATTER", type := (.object "java/util/function/BiFunction"), accessFlags := 25, slot := 2, constantValue := 0 }]
  methods := #[k11m0, k11m1, k11m2]
  instanceTypes := #[]
  staticTypes := #[(.object "java/util/function/BiFunction"), (.object "java/util/function/BiFunction"), (.object "java/util/function/BiFunction")]
  resolved := Array.replicate 194 none
  statics := some 1 }

def pool12 : Array CpInfo := pool [(6, .class_ 8), (1, u "java/lang/Object"), (0, u "<init>"), (0, u "()V"), (1, .class_ 14), (1, u "java/lang/StringUTF16"), (31, u "$assertionsDisabled"), (0, u "Z"), (13, u "HI_BYTE_SHIFT"), (0, u "I"), (2, u "LO_BYTE_SHIFT"), (49, .methodref 12 116), (0, .nameAndType 117 118), (0, u "compress"), (0, u "([CI[BII)I"), (3, u "([CII)[B"), (138, u "coderFromArrayLen"), (0, u "([BI)B"), (106, .class_ 371), (1, u "java/lang/StringUTF16$LinesSpliterator"), (58, u "MAX_LENGTH"), (196, .class_ 628), (0, u "java/lang/StringUTF16$CodePointsSpliterator"), (0, .class_ 630), (0, u "java/lang/StringUTF16$CharsSpliterator")] 4

def k12m0 : Method := { name := "<init>", desc := "()V", sig := { parameters := [], returnType := none }, accessFlags := 0, code := none }
def k12c1 : Code := { maxStack := 2, maxLocals := 2, code := jdk_52_method_15_code, exceptionTable := #[], attributes := #[] }
def k12m1 : Method := { name := "coderFromArrayLen", desc := "([BI)B", sig := { parameters := [(.array .byte), .int], returnType := some .byte }, accessFlags := 8, code := some k12c1 }
def k12c2 : Code := { maxStack := 5, maxLocals := 6, code := jdk_52_method_16_code, exceptionTable := #[], attributes := #[] }
def k12m2 : Method := { name := "compress", desc := "([CII)[B", sig := { parameters := [(.array .char), .int, .int], returnType := some (.array .byte) }, accessFlags := 9, code := some k12c2 }
def k12c3 : Code := { maxStack := 3, maxLocals := 7, code := jdk_52_method_21_code, exceptionTable := #[], attributes := #[] }
def k12m3 : Method := { name := "compress", desc := "([CI[BII)I", sig := { parameters := [(.array .char), .int, (.array .byte), .int, .int], returnType := some .int }, accessFlags := 9, code := some k12c3 }
/-- java/lang/StringUTF16 -/
def k12 : Class := { plain "java/lang/StringUTF16" (some 0) with
  accessFlags := 48
  interfaces := #[]
  cf := some (fileOf pool12 12 #[.nestMembers #[627, 629, 369]] #[{ accessFlags := 0, nameIndex := 9, descriptorIndex := 10, attributes := #[] }, { accessFlags := 8, nameIndex := 261, descriptorIndex := 262, attributes := #[] }, { accessFlags := 9, nameIndex := 117, descriptorIndex := 122, attributes := #[] }, { accessFlags := 9, nameIndex := 117, descriptorIndex := 118, attributes := #[] }] 48 6 #[] #[{ accessFlags := 26, nameIndex := 61, descriptorIndex := 62, attributes := #[] }, { accessFlags := 26, nameIndex := 65, descriptorIndex := 62, attributes := #[] }, { accessFlags := 24, nameIndex := 430, descriptorIndex := 62, attributes := #[] }, { accessFlags := 4120, nameIndex := 46, descriptorIndex := 47, attributes := #[] }])
  fields := #[{ name := "HI_BYTE_SHIFT", type := .int, accessFlags := 26, slot := 0, constantValue := 0 }, { name := "LO_BYTE_SHIFT", type := .int, accessFlags := 26, slot := 1, constantValue := 0 }, { name := "MAX_LENGTH", type := .int, accessFlags := 24, slot := 2, constantValue := 0 }, { name := "$assertionsDisabled", type := .boolean, accessFlags := 4120, slot := 3, constantValue := 0 }]
  methods := #[k12m0, k12m1, k12m2, k12m3]
  instanceTypes := #[]
  staticTypes := #[.int, .int, .int, .boolean]
  resolved := Array.replicate 635 none
  statics := none }

def pool13 : Array CpInfo := pool [(2, .class_ 4), (1, u "java/lang/Object"), (0, u "<init>"), (0, u "()V"), (7, .class_ 16), (1, u "java/util/Arrays"), (57, .class_ 76), (1, u "java/util/Arrays$NaturalOrder"), (36, .class_ 115), (1, u "java/util/Arrays$LegacyMergeSort"), (1, u "Z"), (21, u "copyOfRange"), (10, .methodref 151 152), (0, .class_ 153), (0, .nameAndType 154 155), (0, u "java/lang/System"), (0, u "arraycopy"), (0, u "(Ljava/lang/Object;ILjava/lang/Object;II)V"), (148, .methodref 305 306), (0, .class_ 307), (0, .nameAndType 308 309), (0, u "java/lang/Math"), (0, u "min"), (0, u "(II)I"), (29, .methodref 14 340), (0, .nameAndType 341 342), (0, u "copyOfRangeByte"), (0, u "([BII)[B"), (0, .methodref 14 344), (0, .nameAndType 345 346), (0, u "checkLength"), (0, u "(II)V"), (28, .class_ 376), (0, u "java/util/Arrays$ArrayList"), (68, u "$assertionsDisabled"), (269, u "MIN_ARRAY_SORT_GRAN"), (0, u "I"), (2, u "INSERTIONSORT_THRESHOLD"), (255, .class_ 976), (0, u "java/util/Arrays$ArrayItr")] 52

def k13m0 : Method := { name := "<init>", desc := "()V", sig := { parameters := [], returnType := none }, accessFlags := 2, code := none }
def k13c1 : Code := { maxStack := 4, maxLocals := 2, code := jdk_65_method_131_code, exceptionTable := #[], attributes := #[] }
def k13m1 : Method := { name := "checkLength", desc := "(II)V", sig := { parameters := [.int, .int], returnType := none }, accessFlags := 10, code := some k13c1 }
def k13c2 : Code := { maxStack := 3, maxLocals := 3, code := jdk_65_method_132_code, exceptionTable := #[], attributes := #[] }
def k13m2 : Method := { name := "copyOfRange", desc := "([BII)[B", sig := { parameters := [(.array .byte), .int, .int], returnType := some (.array .byte) }, accessFlags := 9, code := some k13c2 }
def k13c3 : Code := { maxStack := 6, maxLocals := 5, code := jdk_65_method_133_code, exceptionTable := #[], attributes := #[] }
def k13m3 : Method := { name := "copyOfRangeByte", desc := "([BII)[B", sig := { parameters := [(.array .byte), .int, .int], returnType := some (.array .byte) }, accessFlags := 10, code := some k13c3 }
/-- java/util/Arrays -/
def k13 : Class := { plain "java/util/Arrays" (some 0) with
  accessFlags := 49
  interfaces := #[]
  cf := some (fileOf pool13 14 #[.nestMembers #[975, 375, 113, 74]] #[{ accessFlags := 2, nameIndex := 5, descriptorIndex := 6, attributes := #[] }, { accessFlags := 10, nameIndex := 345, descriptorIndex := 346, attributes := #[] }, { accessFlags := 9, nameIndex := 139, descriptorIndex := 342, attributes := #[] }, { accessFlags := 10, nameIndex := 341, descriptorIndex := 342, attributes := #[] }] 49 2 #[] #[{ accessFlags := 26, nameIndex := 715, descriptorIndex := 716, attributes := #[] }, { accessFlags := 26, nameIndex := 719, descriptorIndex := 716, attributes := #[] }, { accessFlags := 4120, nameIndex := 445, descriptorIndex := 117, attributes := #[] }])
  fields := #[{ name := "MIN_ARRAY_SORT_GRAN", type := .int, accessFlags := 26, slot := 0, constantValue := 0 }, { name := "INSERTIONSORT_THRESHOLD", type := .int, accessFlags := 26, slot := 1, constantValue := 0 }, { name := "$assertionsDisabled", type := .boolean, accessFlags := 4120, slot := 2, constantValue := 0 }]
  methods := #[k13m0, k13m1, k13m2, k13m3]
  instanceTypes := #[]
  staticTypes := #[.int, .int, .boolean]
  resolved := Array.replicate 1029 none
  statics := none }

def pool14 : Array CpInfo := pool [(2, .class_ 4), (1, u "java/lang/Object"), (0, u "<init>"), (0, u "()V"), (1, .class_ 10), (1, u "java/lang/System"), (0, u "allowSecurityManager"), (0, u "I"), (16, u "cons"), (0, u "Ljava/io/Console;"), (77, .class_ 110), (1, u "java/lang/System$CallersHolder"), (43, u "initialErrStream"), (0, u "Ljava/io/PrintStream;"), (19, u "security"), (0, u "Ljava/lang/SecurityManager;"), (31, .class_ 209), (0, u "java/lang/System$1"), (7, u "props"), (0, u "Ljava/util/Properties;"), (2, u "lineSeparator"), (0, u "Ljava/lang/String;"), (96, .class_ 321), (1, u "java/lang/System$LoggerFinder"), (5, .class_ 328), (0, u "java/lang/System$Logger"), (67, u "err"), (2, u "out"), (91, u "notSupportedJnuEncoding"), (15, u "in"), (17, u "initialIn"), (0, u "Ljava/io/InputStream;"), (35, u "bootLayer"), (0, u "Ljava/lang/ModuleLayer;"), (99, .class_ 664), (0, u "java/lang/System$2"), (9, u "NEVER"), (2, u "MAYBE"), (49, u "arraycopy"), (0, u "(Ljava/lang/Object;ILjava/lang/Object;II)V"), (72, .class_ 802), (0, u "java/lang/System$Logger$Level")] 31

def k14m0 : Method := { name := "<init>", desc := "()V", sig := { parameters := [], returnType := none }, accessFlags := 2, code := none }
def k14m1 : Method := { name := "arraycopy", desc := "(Ljava/lang/Object;ILjava/lang/Object;II)V", sig := { parameters := [(.object "java/lang/Object"), .int, (.object "java/lang/Object"), .int, .int], returnType := none }, accessFlags := 265, code := none }
/-- java/lang/System -/
def k14 : Class := { plain "java/lang/System" (some 0) with
  accessFlags := 49
  interfaces := #[]
  cf := some (fileOf pool14 8 #[.nestMembers #[319, 327, 801, 108, 663, 208]] #[{ accessFlags := 2, nameIndex := 5, descriptorIndex := 6, attributes := #[] }, { accessFlags := 265, nameIndex := 727, descriptorIndex := 728, attributes := #[] }] 49 2 #[] #[{ accessFlags := 25, nameIndex := 507, descriptorIndex := 526, attributes := #[] }, { accessFlags := 25, nameIndex := 399, descriptorIndex := 155, attributes := #[] }, { accessFlags := 25, nameIndex := 396, descriptorIndex := 155, attributes := #[] }, { accessFlags := 10, nameIndex := 525, descriptorIndex := 526, attributes := #[] }, { accessFlags := 26, nameIndex := 674, descriptorIndex := 12, attributes := #[] }, { accessFlags := 26, nameIndex := 677, descriptorIndex := 12, attributes := #[] }, { accessFlags := 10, nameIndex := 11, descriptorIndex := 12, attributes := #[] }, { accessFlags := 74, nameIndex := 175, descriptorIndex := 176, attributes := #[] }, { accessFlags := 10, nameIndex := 491, descriptorIndex := 222, attributes := #[] }, { accessFlags := 74, nameIndex := 29, descriptorIndex := 30, attributes := #[] }, { accessFlags := 74, nameIndex := 154, descriptorIndex := 155, attributes := #[] }, { accessFlags := 10, nameIndex := 217, descriptorIndex := 218, attributes := #[] }, { accessFlags := 10, nameIndex := 221, descriptorIndex := 222, attributes := #[] }, { accessFlags := 8, nameIndex := 562, descriptorIndex := 563, attributes := #[] }])
  fields := #[{ name := "in", type := (.object "java/io/InputStream"), accessFlags := 25, slot := 0, constantValue := 0 }, { name := "out", type := (.object "java/io/PrintStream"), accessFlags := 25, slot := 1, constantValue := 0 }, { name := "err", type := (.object "java/io/PrintStream"), accessFlags := 25, slot := 2, constantValue := 0 }, { name := "initialIn", type := (.object "java/io/InputStream"), accessFlags := 10, slot := 3, constantValue := 0 }, { name := "NEVER", type := .int, accessFlags := 26, slot := 4, constantValue := 0 }, { name := "MAYBE", type := .int, accessFlags := 26, slot := 5, constantValue := 0 }, { name := "allowSecurityManager", type := .int, accessFlags := 10, slot := 6, constantValue := 0 }, { name := "security", type := (.object "java/lang/SecurityManager"), accessFlags := 74, slot := 7, constantValue := 0 }, { name := "notSupportedJnuEncoding", type := (.object "java/lang/String"), accessFlags := 10, slot := 8, constantValue := 0 }, { name := "cons", type := (.object "java/io/Console"), accessFlags := 74, slot := 9, constantValue := 0 }, { name := "initialErrStream", type := (.object "java/io/PrintStream"), accessFlags := 74, slot := 10, constantValue := 0 }, { name := "props", type := (.object "java/util/Properties"), accessFlags := 10, slot := 11, constantValue := 0 }, { name := "lineSeparator", type := (.object "java/lang/String"), accessFlags := 10, slot := 12, constantValue := 0 }, { name := "bootLayer", type := (.object "java/lang/ModuleLayer"), accessFlags := 8, slot := 13, constantValue := 0 }]
  methods := #[k14m0, k14m1]
  instanceTypes := #[]
  staticTypes := #[(.object "java/io/InputStream"), (.object "java/io/PrintStream"), (.object "java/io/PrintStream"), (.object "java/io/InputStream"), .int, .int, .int, (.object "java/lang/SecurityManager"), (.object "java/lang/String"), (.object "java/io/Console"), (.object "java/io/PrintStream"), (.object "java/util/Properties"), (.object "java/lang/String"), (.object "java/lang/ModuleLayer")]
  resolved := Array.replicate 834 none
  statics := none }

def pool15 : Array CpInfo := pool [(9, u "<init>"), (6, .class_ 18), (1, u "java/lang/Object"), (0, u "()V"), (1, .class_ 23), (1, u "jdk/internal/util/ArraysSupport"), (0, u "LOG2_ARRAY_LONG_INDEX_SCALE"), (0, u "I"), (2, u "U"), (0, u "Ljdk/internal/misc/Unsafe;"), (8, u "BIG_ENDIAN"), (0, u "Z"), (8, u "LOG2_BYTE_BIT_SIZE"), (4, u "LOG2_ARRAY_INT_INDEX_SCALE"), (54, u "JLA"), (0, u "Ljdk/internal/access/JavaLangAccess;"), (11, u "LOG2_ARRAY_BOOLEAN_INDEX_SCALE"), (9, u "LOG2_ARRAY_BYTE_INDEX_SCALE"), (5, u "LOG2_ARRAY_CHAR_INDEX_SCALE"), (5, u "LOG2_ARRAY_SHORT_INDEX_SCALE"), (18, u "LOG2_ARRAY_FLOAT_INDEX_SCALE"), (24, u "LOG2_ARRAY_DOUBLE_INDEX_SCALE"), (89, u "T_BOOLEAN"), (2, u "T_CHAR"), (1, u "T_FLOAT"), (1, u "T_DOUBLE"), (1, u "T_BYTE"), (1, u "T_SHORT"), (1, u "T_INT"), (1, u "T_LONG"), (1, u "SOFT_MAX_ARRAY_LENGTH")] 83

def k15m0 : Method := { name := "<init>", desc := "()V", sig := { parameters := [], returnType := none }, accessFlags := 2, code := none }
/-- jdk/internal/util/ArraysSupport -/
def k15 : Class := { plain "jdk/internal/util/ArraysSupport" (some 0) with
  accessFlags := 33
  interfaces := #[]
  cf := some (fileOf pool15 21 #[] #[{ accessFlags := 2, nameIndex := 9, descriptorIndex := 19, attributes := #[] }] 33 16 #[] #[{ accessFlags := 24, nameIndex := 28, descriptorIndex := 29, attributes := #[] }, { accessFlags := 26, nameIndex := 38, descriptorIndex := 39, attributes := #[] }, { accessFlags := 25, nameIndex := 121, descriptorIndex := 25, attributes := #[] }, { accessFlags := 25, nameIndex := 131, descriptorIndex := 25, attributes := #[] }, { accessFlags := 25, nameIndex := 137, descriptorIndex := 25, attributes := #[] }, { accessFlags := 25, nameIndex := 143, descriptorIndex := 25, attributes := #[] }, { accessFlags := 25, nameIndex := 53, descriptorIndex := 25, attributes := #[] }, { accessFlags := 25, nameIndex := 24, descriptorIndex := 25, attributes := #[] }, { accessFlags := 25, nameIndex := 162, descriptorIndex := 25, attributes := #[] }, { accessFlags := 25, nameIndex := 187, descriptorIndex := 25, attributes := #[] }, { accessFlags := 26, nameIndex := 48, descriptorIndex := 25, attributes := #[] }, { accessFlags := 25, nameIndex := 277, descriptorIndex := 25, attributes := #[] }, { accessFlags := 25, nameIndex := 280, descriptorIndex := 25, attributes := #[] }, { accessFlags := 25, nameIndex := 282, descriptorIndex := 25, attributes := #[] }, { accessFlags := 25, nameIndex := 284, descriptorIndex := 25, attributes := #[] }, { accessFlags := 25, nameIndex := 286, descriptorIndex := 25, attributes := #[] }, { accessFlags := 25, nameIndex := 288, descriptorIndex := 25, attributes := #[] }, { accessFlags := 25, nameIndex := 290, descriptorIndex := 25, attributes := #[] }, { accessFlags := 25, nameIndex := 292, descriptorIndex := 25, attributes := #[] }, { accessFlags := 26, nameIndex := 108, descriptorIndex := 109, attributes := #[] }, { accessFlags := 25, nameIndex := 294, descriptorIndex := 25, attributes := #[] }])
  fields := #[{ name := "U", type := (.object "jdk/internal/misc/Unsafe"), accessFlags := 24, slot := 0, constantValue := 0 }, { name := "BIG_ENDIAN", type := .boolean, accessFlags := 26, slot := 1, constantValue := 0 }, { name := "LOG2_ARRAY_BOOLEAN_INDEX_SCALE", type := .int, accessFlags := 25, slot := 2, constantValue := 0 }, { name := "LOG2_ARRAY_BYTE_INDEX_SCALE", type := .int, accessFlags := 25, slot := 3, constantValue := 0 }, { name := "LOG2_ARRAY_CHAR_INDEX_SCALE", type := .int, accessFlags := 25, slot := 4, constantValue := 0 }, { name := "LOG2_ARRAY_SHORT_INDEX_SCALE", type := .int, accessFlags := 25, slot := 5, constantValue := 0 }, { name := "LOG2_ARRAY_INT_INDEX_SCALE", type := .int, accessFlags := 25, slot := 6, constantValue := 0 }, { name := "LOG2_ARRAY_LONG_INDEX_SCALE", type := .int, accessFlags := 25, slot := 7, constantValue := 0 }, { name := "LOG2_ARRAY_FLOAT_INDEX_SCALE", type := .int, accessFlags := 25, slot := 8, constantValue := 0 }, { name := "LOG2_ARRAY_DOUBLE_INDEX_SCALE", type := .int, accessFlags := 25, slot := 9, constantValue := 0 }, { name := "LOG2_BYTE_BIT_SIZE", type := .int, accessFlags := 26, slot := 10, constantValue := 0 }, { name := "T_BOOLEAN", type := .int, accessFlags := 25, slot := 11, constantValue := 0 }, { name := "T_CHAR", type := .int, accessFlags := 25, slot := 12, constantValue := 0 }, { name := "T_FLOAT", type := .int, accessFlags := 25, slot := 13, constantValue := 0 }, { name := "T_DOUBLE", type := .int, accessFlags := 25, slot := 14, constantValue := 0 }, { name := "T_BYTE", type := .int, accessFlags := 25, slot := 15, constantValue := 0 }, { name := "T_SHORT", type := .int, accessFlags := 25, slot := 16, constantValue := 0 }, { name := "T_INT", type := .int, accessFlags := 25, slot := 17, constantValue := 0 }, { name := "T_LONG", type := .int, accessFlags := 25, slot := 18, constantValue := 0 }, { name := "JLA", type := (.object "jdk/internal/access/JavaLangAccess"), accessFlags := 26, slot := 19, constantValue := 0 }, { name := "SOFT_MAX_ARRAY_LENGTH", type := .int, accessFlags := 25, slot := 20, constantValue := 0 }]
  methods := #[k15m0]
  instanceTypes := #[]
  staticTypes := #[(.object "jdk/internal/misc/Unsafe"), .boolean, .int, .int, .int, .int, .int, .int, .int, .int, .int, .int, .int, .int, .int, .int, .int, .int, .int, (.object "jdk/internal/access/JavaLangAccess"), .int]
  resolved := Array.replicate 378 none
  statics := none }

def pool16 : Array CpInfo := pool [(1, u "java/lang/Cloneable"), (0, .class_ 1), (0, u "java/lang/Object"), (0, .class_ 3)] 3

/-- java/lang/Cloneable -/
def k16 : Class := { plain "java/lang/Cloneable" (some 0) with
  accessFlags := 1537
  interfaces := #[]
  cf := some (fileOf pool16 2 #[] #[] 1537 4 #[] #[])
  fields := #[]
  methods := #[]
  instanceTypes := #[]
  staticTypes := #[]
  resolved := Array.replicate 8 none
  statics := none }

/-- the primitive byte -/
def k17 : Class := { plain "byte" none with kind := .primitive 'B', accessFlags := 0x411 }
/-- [B -/
def k18 : Class := { plain "[B" (some 0) with kind := .array 17 .byte, interfaces := #[16, 2], accessFlags := 1041 }

/-- the primitive char -/
def k19 : Class := { plain "char" none with kind := .primitive 'C', accessFlags := 0x411 }
/-- [C -/
def k20 : Class := { plain "[C" (some 0) with kind := .array 19 .char, interfaces := #[16, 2], accessFlags := 1041 }

/-- the primitive int -/
def k21 : Class := { plain "int" none with kind := .primitive 'I', accessFlags := 0x411 }
/-- [I -/
def k22 : Class := { plain "[I" (some 0) with kind := .array 21 .int, interfaces := #[16, 2], accessFlags := 1041 }

/-- [Ljava/lang/String; -/
def k23 : Class := { plain "[Ljava/lang/String;" (some 0) with kind := .array 7 (.object "java/lang/String"), interfaces := #[16, 2], accessFlags := 1041 }

def heap : Heap := #[{ cls := 7, slots := #[.long 0, .int 1, .null, .int 0, .null, .int 0, .int 0], vm := .statics 7 },
  { cls := 11, slots := #[.null, .null, .null], vm := .statics 11 }]
def classes : Array Class := #[k0, k1, k2, k3, k4, k5, k6, k7, k8, k9, k10, k11, k12, k13, k14, k15, k16, k17, k18, k19, k20, k21, k22, k23]
def interned : List (Array UInt16 × Addr) := []
def slotsUsed : Nat := 10
def theMethod : MethodId := ⟨1, 1⟩
def args0 : Array Value := #[.int 5, .long 7]
def aboutOver (below : List Frame) : State where
  vm := { classes := classes, interned := interned.toArray }
  heap := heap
  slotsUsed := slotsUsed
  threads := #[{ frames := .invoking theMethod args0 :: below }]
def below0 : List Frame := [.native { method := ⟨0, 0⟩, args := #[] }]
def about1 : State := aboutOver below0
def p0 : Program := .bare "" "" ""
def e0 : Env := launch0.env 0 0 0
theorem w_frames : about1.frames = Frame.invoking theMethod args0 :: below0 := rfl
set_option maxRecDepth 65536 in
theorem w_args : argsFit about1.vm theMethod args0 = true := by decide +kernel
set_option maxRecDepth 65536 in
theorem w_heap : heapFits about1 = true := by decide +kernel
set_option maxRecDepth 65536 in
theorem w_runnable : about1.curStatus? = some .runnable := by decide +kernel
set_option maxRecDepth 65536 in
theorem w_alone : about1.alone = true := by decide +kernel
set_option maxRecDepth 65536 in
theorem w_named : about1.methodNamed? x = some theMethod := by decide +kernel
set_option maxRecDepth 65536 in
theorem w_hears : about1.hears theMethod below0 = true := by decide +kernel
set_option maxRecDepth 65536 in
theorem w_ripe : about1.ripe theMethod args0 below0 = true := by decide +kernel
theorem w_running : about1.status = .running := rfl
set_option maxRecDepth 65536 in
theorem w_room : about1.hasRoom e0.platform room_1 = true :=
  launch0.hasRoom_least _ room_1 (by decide +kernel) (by decide +kernel) (by decide +kernel) (by decide +kernel) (by decide +kernel) (by decide +kernel)
theorem allAtoms_all (ts : List Jvm.Cond) (a : Array Jvm.Value) (st : Jvm.State) : (allAtoms ts).before a st = ts.all (fun c => c.before a st) := by
  induction ts with
  | nil => rfl
  | cons c t ih =>
    show (Jvm.Cond.and c (allAtoms t)).before a st = _
    rw [Jvm.Cond.before_and, ih, List.all_cons]
def words1 : List Jvm.Cond := Jvm.Cond.code x code maxLocals ret :: tables_1
/-- a 'code' word, met by the world's own term for the bytes: nothing is compared byte by byte -/
theorem code_word {y : MethodName} {bytes : ByteArray} {mx : Nat} {rt : Option FieldType} {a : Array Value} {s : State} {m : MethodId} {meth : Method} {c : Code} (h1 : s.methodNamed? y = some m) (h2 : s.vm.method? m = some meth) (h3 : meth.code = some c) (h4 : c.code = bytes)
    (h5 : (c.maxLocals == mx && c.exceptionTable.isEmpty && decide (c.maxStack ≤ mostOperands) && decide (meth.sig.returnType = rt) && !meth.locks && decide (parseMethodDescriptor y.desc = some meth.sig)) = true) : (Jvm.Cond.code y bytes mx rt).before a s = true := by
  simp only [Bool.and_eq_true, beq_iff_eq, Bool.not_eq_true', decide_eq_true_eq] at h5
  obtain ⟨⟨⟨⟨⟨g1, g2⟩, g3⟩, g4⟩, g5⟩, g6⟩ := h5
  simp [Cond.before, Cond.holds, Cond.value, h1, h2, h3, h4, g1, g2, g3, g4, g5, g6]
def isCode : Jvm.Cond → Bool
  | .code _ _ _ _ => true
  | _ => false
theorem all_split {L : List Jvm.Cond} {P : Jvm.Cond → Bool} (h1 : L.all (fun c => isCode c || P c) = true) (h2 : ∀ c ∈ L.filter isCode, P c = true) : L.all P = true := by
  refine List.all_eq_true.mpr fun c hc => ?_
  have h := List.all_eq_true.mp h1 c hc
  rcases Bool.eq_false_or_eq_true (isCode c) with hi | hi
  · exact h2 c (List.mem_filter.mpr ⟨hc, hi⟩)
  · simpa [hi] using h
set_option maxRecDepth 65536 in
theorem w_c0 : (Jvm.Cond.code x code maxLocals ret).before args0 about1 = true := code_word (m := ⟨1, 1⟩) (meth := k1m1) (c := k1c1) (by decide +kernel) rfl rfl rfl (by decide +kernel)
set_option maxRecDepth 65536 in
theorem w_c1 : (Jvm.Cond.code ({ cls := "com/example/novation/novation/CsvFieldsPinLaw", name := "pick", desc := "(IJI)C" } : Jvm.MethodName) method_3_code (4 : Nat) (Option.some Jvm.ClassFile.FieldType.char)).before args0 about1 = true := code_word (m := ⟨1, 2⟩) (meth := k1m2) (c := k1c2) (by decide +kernel) rfl rfl rfl (by decide +kernel)
set_option maxRecDepth 65536 in
theorem w_c2 : (Jvm.Cond.code ({ cls := "com/example/novation/novation/CsvFieldsPinLaw", name := "str", desc := "([CI)Ljava/lang/String;" } : Jvm.MethodName) method_4_code (2 : Nat) (Option.some (Jvm.ClassFile.FieldType.object "java/lang/String"))).before args0 about1 = true := code_word (m := ⟨1, 3⟩) (meth := k1m3) (c := k1c3) (by decide +kernel) rfl rfl rfl (by decide +kernel)
set_option maxRecDepth 65536 in
theorem w_c3 : (Jvm.Cond.code ({ cls := "com/example/novation/novation/Csv", name := "fields", desc := "(Ljava/lang/String;)[Ljava/lang/String;" } : Jvm.MethodName) prog_22_method_2_code (5 : Nat) (Option.some (Jvm.ClassFile.FieldType.array (Jvm.ClassFile.FieldType.object "java/lang/String")))).before args0 about1 = true := code_word (m := ⟨8, 1⟩) (meth := k8m1) (c := k8c1) (by decide +kernel) rfl rfl rfl (by decide +kernel)
set_option maxRecDepth 65536 in
theorem w_c4 : (Jvm.Cond.code ({ cls := "com/example/novation/novation/Csv", name := "commas", desc := "(Ljava/lang/String;)I" } : Jvm.MethodName) prog_22_method_6_code (3 : Nat) (Option.some Jvm.ClassFile.FieldType.int)).before args0 about1 = true := code_word (m := ⟨8, 2⟩) (meth := k8m2) (c := k8c2) (by decide +kernel) rfl rfl rfl (by decide +kernel)
set_option maxRecDepth 65536 in
theorem w_c5 : (Jvm.Cond.code ({ cls := "java/lang/String", name := "indexOf", desc := "(I)I" } : Jvm.MethodName) jdk_42_method_79_code (2 : Nat) (Option.some Jvm.ClassFile.FieldType.int)).before args0 about1 = true := code_word (m := ⟨7, 4⟩) (meth := k7m4) (c := k7c4) (by decide +kernel) rfl rfl rfl (by decide +kernel)
set_option maxRecDepth 65536 in
theorem w_c6 : (Jvm.Cond.code ({ cls := "java/lang/String", name := "indexOf", desc := "(II)I" } : Jvm.MethodName) jdk_42_method_80_code (3 : Nat) (Option.some Jvm.ClassFile.FieldType.int)).before args0 about1 = true := code_word (m := ⟨7, 5⟩) (meth := k7m5) (c := k7c5) (by decide +kernel) rfl rfl rfl (by decide +kernel)
set_option maxRecDepth 65536 in
theorem w_c7 : (Jvm.Cond.code ({ cls := "java/lang/String", name := "isLatin1", desc := "()Z" } : Jvm.MethodName) jdk_42_method_154_code (1 : Nat) (Option.some Jvm.ClassFile.FieldType.boolean)).before args0 about1 = true := code_word (m := ⟨7, 12⟩) (meth := k7m12) (c := k7c12) (by decide +kernel) rfl rfl rfl (by decide +kernel)
set_option maxRecDepth 65536 in
theorem w_c8 : (Jvm.Cond.code ({ cls := "java/lang/String", name := "length", desc := "()I" } : Jvm.MethodName) jdk_42_method_54_code (1 : Nat) (Option.some Jvm.ClassFile.FieldType.int)).before args0 about1 = true := code_word (m := ⟨7, 2⟩) (meth := k7m2) (c := k7c2) (by decide +kernel) rfl rfl rfl (by decide +kernel)
set_option maxRecDepth 65536 in
theorem w_c9 : (Jvm.Cond.code ({ cls := "java/lang/String", name := "coder", desc := "()B" } : Jvm.MethodName) jdk_42_method_152_code (1 : Nat) (Option.some Jvm.ClassFile.FieldType.byte)).before args0 about1 = true := code_word (m := ⟨7, 11⟩) (meth := k7m11) (c := k7c11) (by decide +kernel) rfl rfl rfl (by decide +kernel)
set_option maxRecDepth 65536 in
theorem w_c10 : (Jvm.Cond.code ({ cls := "java/lang/StringLatin1", name := "indexOf", desc := "([BIII)I" } : Jvm.MethodName) jdk_43_method_22_code (4 : Nat) (Option.some Jvm.ClassFile.FieldType.int)).before args0 about1 = true := code_word (m := ⟨9, 4⟩) (meth := k9m4) (c := k9c4) (by decide +kernel) rfl rfl rfl (by decide +kernel)
set_option maxRecDepth 65536 in
theorem w_c11 : (Jvm.Cond.code ({ cls := "java/lang/StringLatin1", name := "canEncode", desc := "(I)Z" } : Jvm.MethodName) jdk_43_method_4_code (1 : Nat) (Option.some Jvm.ClassFile.FieldType.boolean)).before args0 about1 = true := code_word (m := ⟨9, 3⟩) (meth := k9m3) (c := k9c3) (by decide +kernel) rfl rfl rfl (by decide +kernel)
set_option maxRecDepth 65536 in
theorem w_c12 : (Jvm.Cond.code ({ cls := "java/lang/Math", name := "max", desc := "(II)I" } : Jvm.MethodName) jdk_29_method_65_code (2 : Nat) (Option.some Jvm.ClassFile.FieldType.int)).before args0 about1 = true := code_word (m := ⟨10, 1⟩) (meth := k10m1) (c := k10c1) (by decide +kernel) rfl rfl rfl (by decide +kernel)
set_option maxRecDepth 65536 in
theorem w_c13 : (Jvm.Cond.code ({ cls := "java/lang/Math", name := "min", desc := "(II)I" } : Jvm.MethodName) jdk_29_method_69_code (2 : Nat) (Option.some Jvm.ClassFile.FieldType.int)).before args0 about1 = true := code_word (m := ⟨10, 2⟩) (meth := k10m2) (c := k10c2) (by decide +kernel) rfl rfl rfl (by decide +kernel)
set_option maxRecDepth 65536 in
theorem w_c14 : (Jvm.Cond.code ({ cls := "java/lang/String", name := "substring", desc := "(I)Ljava/lang/String;" } : Jvm.MethodName) jdk_42_method_91_code (2 : Nat) (Option.some (Jvm.ClassFile.FieldType.object "java/lang/String"))).before args0 about1 = true := code_word (m := ⟨7, 6⟩) (meth := k7m6) (c := k7c6) (by decide +kernel) rfl rfl rfl (by decide +kernel)
set_option maxRecDepth 65536 in
theorem w_c15 : (Jvm.Cond.code ({ cls := "java/lang/String", name := "substring", desc := "(II)Ljava/lang/String;" } : Jvm.MethodName) jdk_42_method_92_code (5 : Nat) (Option.some (Jvm.ClassFile.FieldType.object "java/lang/String"))).before args0 about1 = true := code_word (m := ⟨7, 7⟩) (meth := k7m7) (c := k7c7) (by decide +kernel) rfl rfl rfl (by decide +kernel)
set_option maxRecDepth 65536 in
theorem w_c16 : (Jvm.Cond.code ({ cls := "java/lang/String", name := "checkBoundsBeginEnd", desc := "(III)V" } : Jvm.MethodName) jdk_42_method_158_code (3 : Nat) (Option.none : Option Jvm.ClassFile.FieldType)).before args0 about1 = true := code_word (m := ⟨7, 14⟩) (meth := k7m14) (c := k7c14) (by decide +kernel) rfl rfl rfl (by decide +kernel)
set_option maxRecDepth 65536 in
theorem w_c17 : (Jvm.Cond.code ({ cls := "jdk/internal/util/Preconditions", name := "checkFromToIndex", desc := "(IIILjava/util/function/BiFunction;)I" } : Jvm.MethodName) jdk_41_method_12_code (4 : Nat) (Option.some Jvm.ClassFile.FieldType.int)).before args0 about1 = true := code_word (m := ⟨11, 2⟩) (meth := k11m2) (c := k11c2) (by decide +kernel) rfl rfl rfl (by decide +kernel)
set_option maxRecDepth 65536 in
theorem w_c18 : (Jvm.Cond.code ({ cls := "java/lang/String", name := "valueOf", desc := "(C)Ljava/lang/String;" } : Jvm.MethodName) jdk_42_method_139_code (1 : Nat) (Option.some (Jvm.ClassFile.FieldType.object "java/lang/String"))).before args0 about1 = true := code_word (m := ⟨7, 8⟩) (meth := k7m8) (c := k7c8) (by decide +kernel) rfl rfl rfl (by decide +kernel)
set_option maxRecDepth 65536 in
theorem w_c19 : (Jvm.Cond.code ({ cls := "java/lang/StringLatin1", name := "canEncode", desc := "(C)Z" } : Jvm.MethodName) jdk_43_method_3_code (1 : Nat) (Option.some Jvm.ClassFile.FieldType.boolean)).before args0 about1 = true := code_word (m := ⟨9, 2⟩) (meth := k9m2) (c := k9c2) (by decide +kernel) rfl rfl rfl (by decide +kernel)
set_option maxRecDepth 65536 in
theorem w_c20 : (Jvm.Cond.code ({ cls := "java/lang/StringLatin1", name := "toBytes", desc := "(C)[B" } : Jvm.MethodName) jdk_43_method_46_code (1 : Nat) (Option.some (Jvm.ClassFile.FieldType.array Jvm.ClassFile.FieldType.byte))).before args0 about1 = true := code_word (m := ⟨9, 6⟩) (meth := k9m6) (c := k9c6) (by decide +kernel) rfl rfl rfl (by decide +kernel)
set_option maxRecDepth 65536 in
theorem w_c21 : (Jvm.Cond.code ({ cls := "java/lang/String", name := "<init>", desc := "([BB)V" } : Jvm.MethodName) jdk_42_method_151_code (3 : Nat) (Option.none : Option Jvm.ClassFile.FieldType)).before args0 about1 = true := code_word (m := ⟨7, 10⟩) (meth := k7m10) (c := k7c10) (by decide +kernel) rfl rfl rfl (by decide +kernel)
set_option maxRecDepth 65536 in
theorem w_c22 : (Jvm.Cond.code ({ cls := "java/lang/Object", name := "<init>", desc := "()V" } : Jvm.MethodName) object_method_1_code (1 : Nat) (Option.none : Option Jvm.ClassFile.FieldType)).before args0 about1 = true := code_word (m := ⟨0, 0⟩) (meth := k0m0) (c := k0c0) (by decide +kernel) rfl rfl rfl (by decide +kernel)
set_option maxRecDepth 65536 in
theorem w_c23 : (Jvm.Cond.code ({ cls := "java/lang/StringLatin1", name := "indexOfChar", desc := "([BIII)I" } : Jvm.MethodName) jdk_43_method_23_code (6 : Nat) (Option.some Jvm.ClassFile.FieldType.int)).before args0 about1 = true := code_word (m := ⟨9, 5⟩) (meth := k9m5) (c := k9c5) (by decide +kernel) rfl rfl rfl (by decide +kernel)
set_option maxRecDepth 65536 in
theorem w_c24 : (Jvm.Cond.code ({ cls := "com/example/novation/novation/CsvFieldsPinLaw", name := "step", desc := "([Ljava/lang/String;[IC)V" } : Jvm.MethodName) method_5_code (5 : Nat) (Option.none : Option Jvm.ClassFile.FieldType)).before args0 about1 = true := code_word (m := ⟨1, 4⟩) (meth := k1m4) (c := k1c4) (by decide +kernel) rfl rfl rfl (by decide +kernel)
set_option maxRecDepth 65536 in
theorem w_c25 : (Jvm.Cond.code ({ cls := "java/lang/String", name := "charAt", desc := "(I)C" } : Jvm.MethodName) jdk_42_method_56_code (2 : Nat) (Option.some Jvm.ClassFile.FieldType.char)).before args0 about1 = true := code_word (m := ⟨7, 3⟩) (meth := k7m3) (c := k7c3) (by decide +kernel) rfl rfl rfl (by decide +kernel)
set_option maxRecDepth 65536 in
theorem w_c26 : (Jvm.Cond.code ({ cls := "java/lang/StringLatin1", name := "charAt", desc := "([BI)C" } : Jvm.MethodName) jdk_43_method_2_code (2 : Nat) (Option.some Jvm.ClassFile.FieldType.char)).before args0 about1 = true := code_word (m := ⟨9, 1⟩) (meth := k9m1) (c := k9c1) (by decide +kernel) rfl rfl rfl (by decide +kernel)
set_option maxRecDepth 65536 in
theorem w_c27 : (Jvm.Cond.code ({ cls := "java/lang/String", name := "checkIndex", desc := "(II)V" } : Jvm.MethodName) jdk_42_method_155_code (2 : Nat) (Option.none : Option Jvm.ClassFile.FieldType)).before args0 about1 = true := code_word (m := ⟨7, 13⟩) (meth := k7m13) (c := k7c13) (by decide +kernel) rfl rfl rfl (by decide +kernel)
set_option maxRecDepth 65536 in
theorem w_c28 : (Jvm.Cond.code ({ cls := "jdk/internal/util/Preconditions", name := "checkIndex", desc := "(IILjava/util/function/BiFunction;)I" } : Jvm.MethodName) jdk_41_method_11_code (3 : Nat) (Option.some Jvm.ClassFile.FieldType.int)).before args0 about1 = true := code_word (m := ⟨11, 1⟩) (meth := k11m1) (c := k11c1) (by decide +kernel) rfl rfl rfl (by decide +kernel)
set_option maxRecDepth 65536 in
theorem w_c29 : (Jvm.Cond.code ({ cls := "java/lang/StringLatin1", name := "newString", desc := "([BII)Ljava/lang/String;" } : Jvm.MethodName) jdk_43_method_47_code (3 : Nat) (Option.some (Jvm.ClassFile.FieldType.object "java/lang/String"))).before args0 about1 = true := code_word (m := ⟨9, 7⟩) (meth := k9m7) (c := k9c7) (by decide +kernel) rfl rfl rfl (by decide +kernel)
set_option maxRecDepth 65536 in
theorem w_c30 : (Jvm.Cond.code ({ cls := "java/lang/String", name := "<init>", desc := "([C)V" } : Jvm.MethodName) jdk_42_method_3_code (2 : Nat) (Option.none : Option Jvm.ClassFile.FieldType)).before args0 about1 = true := code_word (m := ⟨7, 1⟩) (meth := k7m1) (c := k7c1) (by decide +kernel) rfl rfl rfl (by decide +kernel)
set_option maxRecDepth 65536 in
theorem w_c31 : (Jvm.Cond.code ({ cls := "java/lang/String", name := "<init>", desc := "([CIILjava/lang/Void;)V" } : Jvm.MethodName) jdk_42_method_149_code (6 : Nat) (Option.none : Option Jvm.ClassFile.FieldType)).before args0 about1 = true := code_word (m := ⟨7, 9⟩) (meth := k7m9) (c := k7c9) (by decide +kernel) rfl rfl rfl (by decide +kernel)
set_option maxRecDepth 65536 in
theorem w_c32 : (Jvm.Cond.code ({ cls := "java/lang/StringUTF16", name := "compress", desc := "([CII)[B" } : Jvm.MethodName) jdk_52_method_16_code (6 : Nat) (Option.some (Jvm.ClassFile.FieldType.array Jvm.ClassFile.FieldType.byte))).before args0 about1 = true := code_word (m := ⟨12, 2⟩) (meth := k12m2) (c := k12c2) (by decide +kernel) rfl rfl rfl (by decide +kernel)
set_option maxRecDepth 65536 in
theorem w_c33 : (Jvm.Cond.code ({ cls := "java/lang/StringUTF16", name := "compress", desc := "([CI[BII)I" } : Jvm.MethodName) jdk_52_method_21_code (7 : Nat) (Option.some Jvm.ClassFile.FieldType.int)).before args0 about1 = true := code_word (m := ⟨12, 3⟩) (meth := k12m3) (c := k12c3) (by decide +kernel) rfl rfl rfl (by decide +kernel)
set_option maxRecDepth 65536 in
theorem w_c34 : (Jvm.Cond.code ({ cls := "java/lang/StringUTF16", name := "coderFromArrayLen", desc := "([BI)B" } : Jvm.MethodName) jdk_52_method_15_code (2 : Nat) (Option.some Jvm.ClassFile.FieldType.byte)).before args0 about1 = true := code_word (m := ⟨12, 1⟩) (meth := k12m1) (c := k12c1) (by decide +kernel) rfl rfl rfl (by decide +kernel)
set_option maxRecDepth 65536 in
theorem w_c35 : (Jvm.Cond.code ({ cls := "java/util/Arrays", name := "copyOfRange", desc := "([BII)[B" } : Jvm.MethodName) jdk_65_method_132_code (3 : Nat) (Option.some (Jvm.ClassFile.FieldType.array Jvm.ClassFile.FieldType.byte))).before args0 about1 = true := code_word (m := ⟨13, 2⟩) (meth := k13m2) (c := k13c2) (by decide +kernel) rfl rfl rfl (by decide +kernel)
set_option maxRecDepth 65536 in
theorem w_c36 : (Jvm.Cond.code ({ cls := "java/util/Arrays", name := "copyOfRangeByte", desc := "([BII)[B" } : Jvm.MethodName) jdk_65_method_133_code (5 : Nat) (Option.some (Jvm.ClassFile.FieldType.array Jvm.ClassFile.FieldType.byte))).before args0 about1 = true := code_word (m := ⟨13, 3⟩) (meth := k13m3) (c := k13c3) (by decide +kernel) rfl rfl rfl (by decide +kernel)
set_option maxRecDepth 65536 in
theorem w_c37 : (Jvm.Cond.code ({ cls := "java/util/Arrays", name := "checkLength", desc := "(II)V" } : Jvm.MethodName) jdk_65_method_131_code (2 : Nat) (Option.none : Option Jvm.ClassFile.FieldType)).before args0 about1 = true := code_word (m := ⟨13, 1⟩) (meth := k13m1) (c := k13c1) (by decide +kernel) rfl rfl rfl (by decide +kernel)
def codes1 : List Jvm.Cond := [Jvm.Cond.code x code maxLocals ret, Jvm.Cond.code ({ cls := "com/example/novation/novation/CsvFieldsPinLaw", name := "pick", desc := "(IJI)C" } : Jvm.MethodName) method_3_code (4 : Nat) (Option.some Jvm.ClassFile.FieldType.char), Jvm.Cond.code ({ cls := "com/example/novation/novation/CsvFieldsPinLaw", name := "str", desc := "([CI)Ljava/lang/String;" } : Jvm.MethodName) method_4_code (2 : Nat) (Option.some (Jvm.ClassFile.FieldType.object "java/lang/String")), Jvm.Cond.code ({ cls := "com/example/novation/novation/Csv", name := "fields", desc := "(Ljava/lang/String;)[Ljava/lang/String;" } : Jvm.MethodName) prog_22_method_2_code (5 : Nat) (Option.some (Jvm.ClassFile.FieldType.array (Jvm.ClassFile.FieldType.object "java/lang/String"))), Jvm.Cond.code ({ cls := "com/example/novation/novation/Csv", name := "commas", desc := "(Ljava/lang/String;)I" } : Jvm.MethodName) prog_22_method_6_code (3 : Nat) (Option.some Jvm.ClassFile.FieldType.int), Jvm.Cond.code ({ cls := "java/lang/String", name := "indexOf", desc := "(I)I" } : Jvm.MethodName) jdk_42_method_79_code (2 : Nat) (Option.some Jvm.ClassFile.FieldType.int), Jvm.Cond.code ({ cls := "java/lang/String", name := "indexOf", desc := "(II)I" } : Jvm.MethodName) jdk_42_method_80_code (3 : Nat) (Option.some Jvm.ClassFile.FieldType.int), Jvm.Cond.code ({ cls := "java/lang/String", name := "isLatin1", desc := "()Z" } : Jvm.MethodName) jdk_42_method_154_code (1 : Nat) (Option.some Jvm.ClassFile.FieldType.boolean), Jvm.Cond.code ({ cls := "java/lang/String", name := "length", desc := "()I" } : Jvm.MethodName) jdk_42_method_54_code (1 : Nat) (Option.some Jvm.ClassFile.FieldType.int), Jvm.Cond.code ({ cls := "java/lang/String", name := "coder", desc := "()B" } : Jvm.MethodName) jdk_42_method_152_code (1 : Nat) (Option.some Jvm.ClassFile.FieldType.byte), Jvm.Cond.code ({ cls := "java/lang/StringLatin1", name := "indexOf", desc := "([BIII)I" } : Jvm.MethodName) jdk_43_method_22_code (4 : Nat) (Option.some Jvm.ClassFile.FieldType.int), Jvm.Cond.code ({ cls := "java/lang/StringLatin1", name := "canEncode", desc := "(I)Z" } : Jvm.MethodName) jdk_43_method_4_code (1 : Nat) (Option.some Jvm.ClassFile.FieldType.boolean), Jvm.Cond.code ({ cls := "java/lang/Math", name := "max", desc := "(II)I" } : Jvm.MethodName) jdk_29_method_65_code (2 : Nat) (Option.some Jvm.ClassFile.FieldType.int), Jvm.Cond.code ({ cls := "java/lang/Math", name := "min", desc := "(II)I" } : Jvm.MethodName) jdk_29_method_69_code (2 : Nat) (Option.some Jvm.ClassFile.FieldType.int), Jvm.Cond.code ({ cls := "java/lang/String", name := "substring", desc := "(I)Ljava/lang/String;" } : Jvm.MethodName) jdk_42_method_91_code (2 : Nat) (Option.some (Jvm.ClassFile.FieldType.object "java/lang/String")), Jvm.Cond.code ({ cls := "java/lang/String", name := "substring", desc := "(II)Ljava/lang/String;" } : Jvm.MethodName) jdk_42_method_92_code (5 : Nat) (Option.some (Jvm.ClassFile.FieldType.object "java/lang/String")), Jvm.Cond.code ({ cls := "java/lang/String", name := "checkBoundsBeginEnd", desc := "(III)V" } : Jvm.MethodName) jdk_42_method_158_code (3 : Nat) (Option.none : Option Jvm.ClassFile.FieldType), Jvm.Cond.code ({ cls := "jdk/internal/util/Preconditions", name := "checkFromToIndex", desc := "(IIILjava/util/function/BiFunction;)I" } : Jvm.MethodName) jdk_41_method_12_code (4 : Nat) (Option.some Jvm.ClassFile.FieldType.int), Jvm.Cond.code ({ cls := "java/lang/String", name := "valueOf", desc := "(C)Ljava/lang/String;" } : Jvm.MethodName) jdk_42_method_139_code (1 : Nat) (Option.some (Jvm.ClassFile.FieldType.object "java/lang/String")), Jvm.Cond.code ({ cls := "java/lang/StringLatin1", name := "canEncode", desc := "(C)Z" } : Jvm.MethodName) jdk_43_method_3_code (1 : Nat) (Option.some Jvm.ClassFile.FieldType.boolean), Jvm.Cond.code ({ cls := "java/lang/StringLatin1", name := "toBytes", desc := "(C)[B" } : Jvm.MethodName) jdk_43_method_46_code (1 : Nat) (Option.some (Jvm.ClassFile.FieldType.array Jvm.ClassFile.FieldType.byte)), Jvm.Cond.code ({ cls := "java/lang/String", name := "<init>", desc := "([BB)V" } : Jvm.MethodName) jdk_42_method_151_code (3 : Nat) (Option.none : Option Jvm.ClassFile.FieldType), Jvm.Cond.code ({ cls := "java/lang/Object", name := "<init>", desc := "()V" } : Jvm.MethodName) object_method_1_code (1 : Nat) (Option.none : Option Jvm.ClassFile.FieldType), Jvm.Cond.code ({ cls := "java/lang/StringLatin1", name := "indexOfChar", desc := "([BIII)I" } : Jvm.MethodName) jdk_43_method_23_code (6 : Nat) (Option.some Jvm.ClassFile.FieldType.int), Jvm.Cond.code ({ cls := "com/example/novation/novation/CsvFieldsPinLaw", name := "step", desc := "([Ljava/lang/String;[IC)V" } : Jvm.MethodName) method_5_code (5 : Nat) (Option.none : Option Jvm.ClassFile.FieldType), Jvm.Cond.code ({ cls := "java/lang/String", name := "charAt", desc := "(I)C" } : Jvm.MethodName) jdk_42_method_56_code (2 : Nat) (Option.some Jvm.ClassFile.FieldType.char), Jvm.Cond.code ({ cls := "java/lang/StringLatin1", name := "charAt", desc := "([BI)C" } : Jvm.MethodName) jdk_43_method_2_code (2 : Nat) (Option.some Jvm.ClassFile.FieldType.char), Jvm.Cond.code ({ cls := "java/lang/String", name := "checkIndex", desc := "(II)V" } : Jvm.MethodName) jdk_42_method_155_code (2 : Nat) (Option.none : Option Jvm.ClassFile.FieldType), Jvm.Cond.code ({ cls := "jdk/internal/util/Preconditions", name := "checkIndex", desc := "(IILjava/util/function/BiFunction;)I" } : Jvm.MethodName) jdk_41_method_11_code (3 : Nat) (Option.some Jvm.ClassFile.FieldType.int), Jvm.Cond.code ({ cls := "java/lang/StringLatin1", name := "newString", desc := "([BII)Ljava/lang/String;" } : Jvm.MethodName) jdk_43_method_47_code (3 : Nat) (Option.some (Jvm.ClassFile.FieldType.object "java/lang/String")), Jvm.Cond.code ({ cls := "java/lang/String", name := "<init>", desc := "([C)V" } : Jvm.MethodName) jdk_42_method_3_code (2 : Nat) (Option.none : Option Jvm.ClassFile.FieldType), Jvm.Cond.code ({ cls := "java/lang/String", name := "<init>", desc := "([CIILjava/lang/Void;)V" } : Jvm.MethodName) jdk_42_method_149_code (6 : Nat) (Option.none : Option Jvm.ClassFile.FieldType), Jvm.Cond.code ({ cls := "java/lang/StringUTF16", name := "compress", desc := "([CII)[B" } : Jvm.MethodName) jdk_52_method_16_code (6 : Nat) (Option.some (Jvm.ClassFile.FieldType.array Jvm.ClassFile.FieldType.byte)), Jvm.Cond.code ({ cls := "java/lang/StringUTF16", name := "compress", desc := "([CI[BII)I" } : Jvm.MethodName) jdk_52_method_21_code (7 : Nat) (Option.some Jvm.ClassFile.FieldType.int), Jvm.Cond.code ({ cls := "java/lang/StringUTF16", name := "coderFromArrayLen", desc := "([BI)B" } : Jvm.MethodName) jdk_52_method_15_code (2 : Nat) (Option.some Jvm.ClassFile.FieldType.byte), Jvm.Cond.code ({ cls := "java/util/Arrays", name := "copyOfRange", desc := "([BII)[B" } : Jvm.MethodName) jdk_65_method_132_code (3 : Nat) (Option.some (Jvm.ClassFile.FieldType.array Jvm.ClassFile.FieldType.byte)), Jvm.Cond.code ({ cls := "java/util/Arrays", name := "copyOfRangeByte", desc := "([BII)[B" } : Jvm.MethodName) jdk_65_method_133_code (5 : Nat) (Option.some (Jvm.ClassFile.FieldType.array Jvm.ClassFile.FieldType.byte)), Jvm.Cond.code ({ cls := "java/util/Arrays", name := "checkLength", desc := "(II)V" } : Jvm.MethodName) jdk_65_method_131_code (2 : Nat) (Option.none : Option Jvm.ClassFile.FieldType)]
set_option maxRecDepth 65536 in
theorem codes_eq : words1.filter isCode = codes1 := rfl
theorem w_codes : ∀ c ∈ words1.filter isCode, c.before args0 about1 = true := by
  rw [codes_eq]
  intro c hc
  simp only [codes1, List.mem_cons, List.not_mem_nil, or_false] at hc
  rcases hc with rfl | rfl | rfl | rfl | rfl | rfl | rfl | rfl | rfl | rfl | rfl | rfl | rfl | rfl | rfl | rfl | rfl | rfl | rfl | rfl | rfl | rfl | rfl | rfl | rfl | rfl | rfl | rfl | rfl | rfl | rfl | rfl | rfl | rfl | rfl | rfl | rfl | rfl
  · exact w_c0
  · exact w_c1
  · exact w_c2
  · exact w_c3
  · exact w_c4
  · exact w_c5
  · exact w_c6
  · exact w_c7
  · exact w_c8
  · exact w_c9
  · exact w_c10
  · exact w_c11
  · exact w_c12
  · exact w_c13
  · exact w_c14
  · exact w_c15
  · exact w_c16
  · exact w_c17
  · exact w_c18
  · exact w_c19
  · exact w_c20
  · exact w_c21
  · exact w_c22
  · exact w_c23
  · exact w_c24
  · exact w_c25
  · exact w_c26
  · exact w_c27
  · exact w_c28
  · exact w_c29
  · exact w_c30
  · exact w_c31
  · exact w_c32
  · exact w_c33
  · exact w_c34
  · exact w_c35
  · exact w_c36
  · exact w_c37
set_option maxRecDepth 65536 in
theorem w_t1 : (words1.take 24).all (fun c => isCode c || c.before args0 about1) = true := by decide +kernel
set_option maxRecDepth 65536 in
theorem w_t2 : ((words1.drop 24).take 24).all (fun c => isCode c || c.before args0 about1) = true := by decide +kernel
set_option maxRecDepth 65536 in
theorem w_t3 : (((words1.drop 24).drop 24).take 24).all (fun c => isCode c || c.before args0 about1) = true := by decide +kernel
set_option maxRecDepth 65536 in
theorem w_t4 : ((((words1.drop 24).drop 24).drop 24).take 24).all (fun c => isCode c || c.before args0 about1) = true := by decide +kernel
set_option maxRecDepth 65536 in
theorem w_t5 : (((((words1.drop 24).drop 24).drop 24).drop 24).take 24).all (fun c => isCode c || c.before args0 about1) = true := by decide +kernel
set_option maxRecDepth 65536 in
theorem w_t6 : ((((((words1.drop 24).drop 24).drop 24).drop 24).drop 24).take 24).all (fun c => isCode c || c.before args0 about1) = true := by decide +kernel
set_option maxRecDepth 65536 in
theorem w_t7 : ((((((words1.drop 24).drop 24).drop 24).drop 24).drop 24).drop 24).all (fun c => isCode c || c.before args0 about1) = true := by decide +kernel
theorem w_tables : (allAtoms (Jvm.Cond.code x code maxLocals ret :: tables_1)).before args0 about1 = true := by
  rw [allAtoms_all]
  show words1.all (fun c => c.before args0 about1) = true
  refine all_split ?_ w_codes
  rw [← List.take_append_drop 24 words1, List.all_append, w_t1, ← List.take_append_drop 24 (words1.drop 24), List.all_append, w_t2, ← List.take_append_drop 24 ((words1.drop 24).drop 24), List.all_append, w_t3, ← List.take_append_drop 24 (((words1.drop 24).drop 24).drop 24), List.all_append, w_t4, ← List.take_append_drop 24 ((((words1.drop 24).drop 24).drop 24).drop 24), List.all_append, w_t5, ← List.take_append_drop 24 (((((words1.drop 24).drop 24).drop 24).drop 24).drop 24), List.all_append, w_t6, w_t7]
  rfl
set_option maxRecDepth 65536 in
theorem w_rest : rest_1_c.before args0 about1 = true := by decide +kernel
set_option maxRecDepth 65536 in
theorem w_case : (Jvm.Cond.and given_1 narrow_1).before args0 about1 = true := by decide +kernel
set_option maxRecDepth 65536 in
theorem w_consts : constsHeld consts_1 about1 := Jvm.Lit.constsHeldB_iff.mp (by decide +kernel)
theorem w_applies : (headSpec (Jvm.Cond.code x code maxLocals ret :: tables_1) room_1).applies x e0.platform about1 = true :=
  (Spec.applies_iff w_frames).mpr ⟨w_running, w_runnable, w_alone, w_named, w_hears, w_ripe, w_room, w_tables⟩
theorem atStart : AtStart classFile x code maxLocals ret World_1 tables_1 room_1 Calls_1 rest_1 Pre_1 launch0 p0 e0 about1 theMethod args0 below0 :=
  ⟨lists_1, trivial, launch0.admits_env _ _ _, launch0.least_env, fairChoices_fair.cas, fairChoices_fair.clock, w_frames, w_args, w_heap, w_applies, ⟨w_consts, trivial⟩, w_rest, w_case⟩
end start1
theorem witness_1 : WitnessClaimed_1 := ⟨start1.p0, start1.e0, start1.about1, start1.theMethod, start1.args0, start1.below0, start1.atStart⟩
end Jvm.Pilot.@@N@@
