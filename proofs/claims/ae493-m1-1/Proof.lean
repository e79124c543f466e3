import JvmDerived
import JvmDerived.Pilot.@@N@@Statement
import JvmDerived.Pilot.@@N@@Code
set_option linter.unusedVariables false
set_option linter.unusedSimpArgs false
namespace Jvm.RoadKit
open Sem ClassFile Op Lib Jvm.Stand Jvm.Free Jvm.LawKit
section New
variable {p : Program} {l : Launch} {e : Env} {R : Room} {s : State} {m : MethodId} {args : Array Value} {below : List Frame} {meth : Method} {c : Code} {T : State} {locs : List Loc} {cells slots : Nat}
theorem retI (X : Stand p l e R s m args below meth c T locs cells slots) (hx : p.tables.exec = Jvm.exec) {pc : Nat} {Ls : Array Slot} {z : Int32} {rest : List Value} (hret : meth.sig.returnType = some .int) (hd : decode c.code pc = .ok (.ireturn, 1)) {fs : List Frame}
    (hl : ∀ (f : JFrame) (acts : List Action), f.method = m → f.locked = none → f.entered = [] → (doReturn e (T.setTop f) acts (some (.int z))).1 = T.setFrames fs) : Steps p.tables e below (T.setTop (mkF m pc Ls (.int z :: rest))) (T.setFrames fs) := by
  have hm' : T.vm.method? m = some meth := X.method'
  have hn : narrow .int (.int z) = .int z := rfl
  show Steps p.tables e below (T.setTop { method := m, pc := pc, locals := Ls, stack := _ :: rest, locked := none }) _
  jvm_step X.here [X.here.top, hx, hd, hm', hret, hn]
  first | (intro acts; rw [hl _ acts rfl rfl rfl]) | rw [hl _ _ rfl rfl rfl]
  exact Steps.refl _
end New
end Jvm.RoadKit
namespace Jvm.Pilot.@@N@@
open Jvm Jvm.ClassFile Sem Op Lib Jvm.Free Jvm.Stand Jvm.LawKit Jvm.RoadKit Bundle Jvm.Pilot.@@N@@.Jvm.D
theorem ow {Z : State} {a0 : Array Value} (hw : ∀ d ∈ tables_1, d.before a0 Z = true) (i : Nat) {d : Jvm.Cond} (h : tables_1[i]? = some d) : d.before a0 Z = true := hw d (List.mem_of_getElem? h)
abbrev HW (a0 : Array Value) (Z : State) : Prop := ∀ d ∈ tables_1, d.before a0 Z = true
abbrev MF (l : Launch) (y : MethodName) (bytes : ByteArray) (ml : Nat) (ret : Option FieldType) (ws : List Jvm.Cond) (rm : Room) (Z : State) (as : Array Value) (h0 : Heap) (Q : Option Value → Heap → List Loc → Prop) : Prop := MetFree l y (head1 (Jvm.Cond.code y bytes ml ret :: ws) rm) (fun a U => a = as ∧ Z.Warmed39 U.vm ∧ U.heap = h0) (fun _ _ _ _ _ => True) (fun _ U o U' => ∃ v L, o = .returned v ∧ Q v U'.heap L ∧ FrameEnd U o U' L rm.cells rm.slots)
abbrev St (p : Program) (e : Env) (below : List Frame) (T : State) (m : MethodId) (pc : Nat) (Ls : Array Slot) (st : List Value) (t : State) : Prop := Steps p.tables e below (T.setTop (mkF m pc Ls st)) t
theorem own_ord {args : Array Value} {s : State} {t : Term} {C n d : String} {k : Int32} {a : Addr} (ev : t.eval args s none [] s = some (.ref a)) (h : (Jvm.Cond.eq (Term.field t C n d) (Term.int k)).value args s none s [] = some true) : Fld s s.heap a C n d (.int k) := by
  refine Fld.start ?_
  obtain ⟨x, y, h1, h2, h3, h4⟩ := cmp_v (Or.inl h)
  have h5 := h1
  rw [fld_at ev] at h1
  have e2 : y = .int k := (Option.some.inj ((Term.int_eval k).symm.trans h2)).symm
  subst e2
  obtain ⟨z, rfl⟩ := h4
  have q := gotT (Cond.eq_ints h5 h2) h
  rw [h1, q]
def Base (Z : State) (wSegregation_HOUSE : Addr) (wSegregation_INDIVIDUAL : Addr) (wSegregation_OMNIBUS : Addr) (wSegregation_GENERAL : Addr) : Prop := Sta Z Z.heap "com/example/novation/novation/Segregation" "HOUSE" "Lcom/example/novation/novation/Segregation;" (.ref wSegregation_HOUSE) ∧ Exa Z Z.heap wSegregation_HOUSE "com/example/novation/novation/Segregation" ∧ Sta Z Z.heap "com/example/novation/novation/Segregation" "INDIVIDUAL" "Lcom/example/novation/novation/Segregation;" (.ref wSegregation_INDIVIDUAL) ∧ Exa Z Z.heap wSegregation_INDIVIDUAL "com/example/novation/novation/Segregation" ∧ Sta Z Z.heap "com/example/novation/novation/Segregation" "OMNIBUS" "Lcom/example/novation/novation/Segregation;" (.ref wSegregation_OMNIBUS) ∧ Exa Z Z.heap wSegregation_OMNIBUS "com/example/novation/novation/Segregation" ∧ Sta Z Z.heap "com/example/novation/novation/Segregation" "GENERAL" "Lcom/example/novation/novation/Segregation;" (.ref wSegregation_GENERAL) ∧ Exa Z Z.heap wSegregation_GENERAL "com/example/novation/novation/Segregation" ∧ Fld Z Z.heap wSegregation_HOUSE "java/lang/Enum" "ordinal" "I" (.int (0 : Int32)) ∧ Fld Z Z.heap wSegregation_INDIVIDUAL "java/lang/Enum" "ordinal" "I" (.int (1 : Int32)) ∧ Fld Z Z.heap wSegregation_OMNIBUS "java/lang/Enum" "ordinal" "I" (.int (2 : Int32)) ∧ Fld Z Z.heap wSegregation_GENERAL "java/lang/Enum" "ordinal" "I" (.int (3 : Int32)) ∧ wSegregation_HOUSE ≠ wSegregation_INDIVIDUAL ∧ wSegregation_HOUSE ≠ wSegregation_OMNIBUS ∧ wSegregation_HOUSE ≠ wSegregation_GENERAL ∧ wSegregation_INDIVIDUAL ≠ wSegregation_OMNIBUS ∧ wSegregation_INDIVIDUAL ≠ wSegregation_GENERAL ∧ wSegregation_OMNIBUS ≠ wSegregation_GENERAL
theorem d0_0 : decode prog_54_method_5_code 0 = .ok (.aload_n 0, 1) := by decide +kernel
theorem d0_1 : decode prog_54_method_5_code 1 = .ok (.getstatic 7, 3) := by decide +kernel
theorem d0_4 : decode prog_54_method_5_code 4 = .ok (.if_acmp .eq 10, 3) := by decide +kernel
theorem d0_7 : decode prog_54_method_5_code 7 = .ok (.aload_n 0, 1) := by decide +kernel
theorem d0_8 : decode prog_54_method_5_code 8 = .ok (.getstatic 10, 3) := by decide +kernel
theorem d0_11 : decode prog_54_method_5_code 11 = .ok (.if_acmp .ne 7, 3) := by decide +kernel
theorem d0_18 : decode prog_54_method_5_code 18 = .ok (.iconst 0, 1) := by decide +kernel
theorem d0_19 : decode prog_54_method_5_code 19 = .ok (.ireturn, 1) := by decide +kernel
abbrev y0 : MethodName := ⟨"com/example/novation/novation/Segregation", "segregatedClient", "()Z"⟩
theorem pn_com_example_novation_novation_Segregation : plainName "com/example/novation/novation/Segregation" = true := by first | (simp [plainName, overriddenIn]; done) | decide +kernel
def r0_1Q (Z : State) (a1 : Addr) (a2 : Addr) (a6 : Addr) (h0 : Heap) (n0 : Nat) (v : Option Value) (h : Heap) (L : List Loc) : Prop := v = some (.int (0 : Int32)) ∧ Fr n0 L ∧ h = h0
theorem r0_1e (m : MethodId) (a1 : Addr) (a2 : Addr) (a6 : Addr) : entryFrame m #[(.ref a1)] 1 = mkF m 0 #[rv a1] [] := by first | (simp [entryFrame, mkF, argsToLocals, Value.category]; done) | rfl
set_option maxRecDepth 65536 in
set_option maxHeartbeats 40000000 in
theorem r0_1 (l : Launch) (Z : State) (a0 : Array Value) (hw : HW a0 Z) (ws : List Jvm.Cond) (a1 : Addr) (a2 : Addr) (a6 : Addr) (h0 : Heap) (n0 : Nat) (O0 : Old Z n0 h0) (H3 : Sta Z Z.heap "com/example/novation/novation/Segregation" "INDIVIDUAL" "Lcom/example/novation/novation/Segregation;" (.ref a2)) (H5 : a1 ≠ a2) (H7 : Sta Z Z.heap "com/example/novation/novation/Segregation" "OMNIBUS" "Lcom/example/novation/novation/Segregation;" (.ref a6)) (H9 : a1 ≠ a6) :
    MF l y0 prog_54_method_5_code 1 (some .boolean) ws ({ frames := 0, cells := 0, slots := 0, locals := 0 } : Room) Z #[(.ref a1)] h0 (r0_1Q Z a1 a2 a6 h0 n0) := by
  refine MetFree.of_bodySF (plainFor_of_name pn_com_example_novation_novation_Segregation) hisR ?_
  intro p e s m args below meth c s₁ Bd hml0 hP hK
  obtain ⟨rfl, hZ, hh⟩ := hP
  have hx := Bd.exec
  have hby := Bd.bytes
  have hml : c.maxLocals = 1 := hml0
  have hown : s.vm.findClass "com/example/novation/novation/Segregation" = some m.cls := findClass_of_methodNamed Bd.named
  have hnm := (name_of_methodNamed Bd.named Bd.method).1
  have X0 : Stand p l e ({ frames := 0, cells := 0, slots := 0, locals := 0 } : Room) s m #[(.ref a1)] below meth c s₁ [] 0 0 := Stand.of_body Bd
  have e0 : s₁.heap = h0 := by rw [← hh, Bd.state]; rfl
  have N0 := Fr.nil n0
  have pre0 : ∀ t, Steps p.tables e below (s₁.setTop (mkF m 0 #[rv a1] [])) t → Steps p.tables e below (s₁.setTop (entryFrame m #[(.ref a1)] 1)) t := fun t k => castTop (r0_1e m a1 a2 a6) k
  obtain ⟨T4, X4, e4, st4⟩ := getS2 X0 hx hZ hown (host := "") (Or.inl (ow hw 8 rfl)) Via.refl e0 (H3.ext O0.2) (g := (mkF m 1 #[rv a1] [(.ref a1)])) rfl (hb hby d0_1)
  obtain ⟨T8, X8, e8, st8⟩ := getS2 X4 hx hZ hown (host := "") (Or.inl (ow hw 10 rfl)) Via.refl e4 (H7.ext O0.2) (g := (mkF m 8 #[rv a1] [(.ref a1)])) rfl (hb hby d0_8)
  obtain ⟨fs, hr, hrun, hended, hW, hsame⟩ := X8.leave (v := some (.int (0 : Int32))) (fun h => by rw [Bd.returns] at h; cases h)
  refine ⟨_, _, pre0 _ ?_, hrun, hended, _, _, rfl, ?_, ⟨_, rfl⟩, hW, hsame.mono (by decide) (by decide)⟩
  · show St p e below s₁ m 0 #[rv a1] [] _
    refine XS.aloadN X0.here hx rfl (hb hby d0_0) rfl rfl ?_
    show St p e below s₁ m 1 #[rv a1] [(.ref a1)] _
    refine st4 _ ?_
    show St p e below T4 m 4 #[rv a1] [(.ref a2), (.ref a1)] _
    refine Jvm.RoadKit.acmp (g := (mkF m 4 #[rv a1] [(.ref a2), (.ref a1)])) X4 hx rfl rfl rfl (pc0 := 4) (pc' := 7) (same := false) rfl (hb hby d0_4) rfl (decide_eq_false fun q => H5 (Value.ref.inj q)) (by decide) (by decide) ?_
    show St p e below T4 m 7 #[rv a1] [] _
    refine XS.aloadN X4.here hx rfl (hb hby d0_7) rfl rfl ?_
    show St p e below T4 m 8 #[rv a1] [(.ref a1)] _
    refine st8 _ ?_
    show St p e below T8 m 11 #[rv a1] [(.ref a6), (.ref a1)] _
    refine Jvm.RoadKit.acmp (g := (mkF m 11 #[rv a1] [(.ref a6), (.ref a1)])) X8 hx rfl rfl rfl (pc0 := 11) (pc' := 18) (same := false) rfl (hb hby d0_11) rfl (decide_eq_false fun q => H9 (Value.ref.inj q)) (by decide) (by decide) ?_
    show St p e below T8 m 18 #[rv a1] [] _
    refine XS.iconst X8.here hx rfl (hb hby d0_18) ?_
    show St p e below T8 m 19 #[rv a1] [(.int (0 : Int32))] _
    exact retN X8 hx (t := .boolean) Bd.returns (by simp) (hb hby d0_19) hr
  · show r0_1Q Z a1 a2 a6 h0 n0 _ T8.heap _
    rw [e8]
    exact ⟨rfl, N0, rfl⟩
theorem pd___Z : parseMethodDescriptor "()Z" = some ⟨[], some .boolean⟩ := by decide +kernel
theorem pn_com_example_novation_novation_SegregationSegregatedClientPinLaw : plainName "com/example/novation/novation/SegregationSegregatedClientPinLaw" = true := by first | (simp [plainName, overriddenIn]; done) | decide +kernel
def law_1Q (Z : State) (wSegregation_HOUSE : Addr) (wSegregation_INDIVIDUAL : Addr) (wSegregation_OMNIBUS : Addr) (wSegregation_GENERAL : Addr) (i0 : Int32) (h0 : Heap) (n0 : Nat) (v : Option Value) (h : Heap) (L : List Loc) : Prop := v = some (.int (1 : Int32)) ∧ Fr n0 L
theorem law_1e (m : MethodId) (wSegregation_HOUSE : Addr) (wSegregation_INDIVIDUAL : Addr) (wSegregation_OMNIBUS : Addr) (wSegregation_GENERAL : Addr) (i0 : Int32) : entryFrame m #[(.int i0)] maxLocals = mkF m 0 #[iv i0, .unset, .unset, .unset] [] := by first | (simp [entryFrame, mkF, argsToLocals, Value.category, maxLocals]; done) | rfl
set_option maxRecDepth 65536 in
set_option maxHeartbeats 40000000 in
theorem law_1 (l : Launch) (Z : State) (a0 : Array Value) (hw : HW a0 Z) (ws : List Jvm.Cond) (wSegregation_HOUSE : Addr) (wSegregation_INDIVIDUAL : Addr) (wSegregation_OMNIBUS : Addr) (wSegregation_GENERAL : Addr) (B : Base Z wSegregation_HOUSE wSegregation_INDIVIDUAL wSegregation_OMNIBUS wSegregation_GENERAL) (i0 : Int32) (h0 : Heap) (n0 : Nat) (O0 : Old Z n0 h0) (hc1 : (i0 &&& (3 : Int32)) = (0 : Int32)) :
    MetFree l x (head1 (Jvm.Cond.code x code maxLocals ret :: ws) room_1) (fun a U => a = #[(.int i0)] ∧ Z.Warmed39 U.vm ∧ U.heap = h0) (fun _ _ _ _ _ => True) (fun _ U o U' => ∃ v L, o = .returned v ∧ law_1Q Z wSegregation_HOUSE wSegregation_INDIVIDUAL wSegregation_OMNIBUS wSegregation_GENERAL i0 h0 n0 v U'.heap L ∧ FrameEnd U o U' L room_1.cells room_1.slots) := by
  refine MetFree.of_bodySF (plainFor_of_name pn_com_example_novation_novation_SegregationSegregatedClientPinLaw) hisR ?_
  intro p e s m args below meth c s₁ Bd hml0 hP hK
  obtain ⟨rfl, hZ, hh⟩ := hP
  have hx := Bd.exec
  have hby := Bd.bytes
  have hml : c.maxLocals = 4 := hml0
  have hown : s.vm.findClass "com/example/novation/novation/SegregationSegregatedClientPinLaw" = some m.cls := findClass_of_methodNamed Bd.named
  have hnm := (name_of_methodNamed Bd.named Bd.method).1
  have X0 : Stand p l e room_1 s m #[(.int i0)] below meth c s₁ [] 0 0 := Stand.of_body Bd
  have e0 : s₁.heap = h0 := by rw [← hh, Bd.state]; rfl
  have N0 := Fr.nil n0
  have pre0 : ∀ t, Steps p.tables e below (s₁.setTop (mkF m 0 #[iv i0, .unset, .unset, .unset] [])) t → Steps p.tables e below (s₁.setTop (entryFrame m #[(.int i0)] maxLocals)) t := fun t k => castTop (law_1e m wSegregation_HOUSE wSegregation_INDIVIDUAL wSegregation_OMNIBUS wSegregation_GENERAL i0) k
  obtain ⟨T2, X2, e2, st2⟩ := getS2 X0 hx hZ hown (host := "") (Or.inl (ow hw 0 rfl)) Via.refl e0 (B.1.ext O0.2) (g := (mkF m 8 #[iv i0, iv (i0 &&& (3 : Int32)), .unset, .unset] [])) rfl (hb hby at_8)
  obtain ⟨cq3, kq3, q3a, q3b, q3c⟩ := isOf hZ e2 (B.2.1.ext O0.2)
  obtain ⟨_, _, ⟨T3, L3, k3, n3⟩, -, X3, ⟨Lc3, hQ3, l3, y3, z3⟩, st3⟩ := X2.virtualBack hx (y := y0) (z := y0) hown (mvT hZ (ow hw 3 rfl)) (mvT hZ (ow hw 4 rfl)) (notFace_of_selects (args := #[]) (mvT hZ (ow hw 6 rfl))) (mvT hZ (ow hw 6 rfl)) (mvT hZ (ow hw 5 rfl)) (by decide) (backOf (W := 0) (r0_1 l Z a0 hw [] wSegregation_HOUSE wSegregation_INDIVIDUAL wSegregation_OMNIBUS h0 n0 O0 B.2.2.1 B.2.2.2.2.2.2.2.2.2.2.2.2.1 B.2.2.2.2.1 B.2.2.2.2.2.2.2.2.2.2.2.2.2.1) hZ (ow hw 7 rfl) (ow hw 1 rfl) (by decide) (by decide)) q3a q3c (g := (mkF m 52 #[iv i0, iv (i0 &&& (3 : Int32)), rv wSegregation_HOUSE, iv (0 : Int32)] [(.ref wSegregation_HOUSE)])) rfl (by rw [hml]; rfl) (Steps.refl _) (argsL := []) (rest := []) (lenOf pd___Z rfl) rfl (by show 2 * 0 + _ ≤ _; exact Nat.le_of_eq rfl) (hb hby at_52) (fun _ _ => ⟨rfl, e2, (by decide : 0 + 0 ≤ _), (by decide : 0 + 0 ≤ _)⟩)
  dsimp only [Pt.U, Pt.locs, Pt.cells, Pt.slots] at X3 l3 y3 z3 st3 hQ3
  subst l3 y3 z3
  obtain ⟨rfl, N3q, e3⟩ := hQ3
  have N3 := Fr.app N0 N3q
  obtain ⟨fs, hr, hrun, hended, hW, hsame⟩ := X3.leave (v := some (.int (1 : Int32))) (fun h => by rw [Bd.returns] at h; cases h)
  refine ⟨_, _, pre0 _ ?_, hrun, hended, _, _, rfl, ?_, ⟨_, rfl⟩, hW, hsame.mono (by decide) (by decide)⟩
  · show St p e below s₁ m 0 #[iv i0, .unset, .unset, .unset] [] _
    refine XS.iloadN X0.here hx rfl (hb hby at_0) rfl ?_
    show St p e below s₁ m 1 #[iv i0, .unset, .unset, .unset] [(.int i0)] _
    refine XS.iconst X0.here hx rfl (hb hby at_1) ?_
    show St p e below s₁ m 2 #[iv i0, .unset, .unset, .unset] [(.int (3 : Int32)), (.int i0)] _
    refine XS.iand X0.here hx rfl (hb hby at_2) rfl ?_
    show St p e below s₁ m 3 #[iv i0, .unset, .unset, .unset] [(.int (i0 &&& (3 : Int32)))] _
    refine XS.istoreN X0.here hx rfl (hb hby at_3) rfl (l' := #[iv i0, iv (i0 &&& (3 : Int32)), .unset, .unset]) rfl ?_
    show St p e below s₁ m 4 #[iv i0, iv (i0 &&& (3 : Int32)), .unset, .unset] [] _
    refine XS.iloadN X0.here hx rfl (hb hby at_4) rfl ?_
    show St p e below s₁ m 5 #[iv i0, iv (i0 &&& (3 : Int32)), .unset, .unset] [(.int (i0 &&& (3 : Int32)))] _
    refine XS.ifNo X0.here hx rfl (hb hby at_5) rfl ((if0 _ _).trans (teq hc1).2) ?_
    show St p e below s₁ m 8 #[iv i0, iv (i0 &&& (3 : Int32)), .unset, .unset] [] _
    refine st2 _ ?_
    show St p e below T2 m 11 #[iv i0, iv (i0 &&& (3 : Int32)), .unset, .unset] [(.ref wSegregation_HOUSE)] _
    refine XS.astoreN X2.here hx rfl (hb hby at_11) rfl rfl (l' := #[iv i0, iv (i0 &&& (3 : Int32)), rv wSegregation_HOUSE, .unset]) rfl ?_
    show St p e below T2 m 12 #[iv i0, iv (i0 &&& (3 : Int32)), rv wSegregation_HOUSE, .unset] [] _
    refine XS.iconst X2.here hx rfl (hb hby at_12) ?_
    show St p e below T2 m 13 #[iv i0, iv (i0 &&& (3 : Int32)), rv wSegregation_HOUSE, .unset] [(.int (0 : Int32))] _
    refine XS.istoreN X2.here hx rfl (hb hby at_13) rfl (l' := #[iv i0, iv (i0 &&& (3 : Int32)), rv wSegregation_HOUSE, iv (0 : Int32)]) rfl ?_
    show St p e below T2 m 14 #[iv i0, iv (i0 &&& (3 : Int32)), rv wSegregation_HOUSE, iv (0 : Int32)] [] _
    refine XS.goto X2.here hx rfl (pc0 := 14) (pc' := 51) rfl (hb hby at_14) (by decide) (by decide) ?_
    show St p e below T2 m 51 #[iv i0, iv (i0 &&& (3 : Int32)), rv wSegregation_HOUSE, iv (0 : Int32)] [] _
    refine XS.aloadN X2.here hx rfl (hb hby at_51) rfl rfl ?_
    show St p e below T2 m 52 #[iv i0, iv (i0 &&& (3 : Int32)), rv wSegregation_HOUSE, iv (0 : Int32)] [(.ref wSegregation_HOUSE)] _
    refine st3.trans ?_
    show St p e below T3 m 55 #[iv i0, iv (i0 &&& (3 : Int32)), rv wSegregation_HOUSE, iv (0 : Int32)] [(.int (0 : Int32))] _
    refine XS.iloadN X3.here hx rfl (hb hby at_55) rfl ?_
    show St p e below T3 m 56 #[iv i0, iv (i0 &&& (3 : Int32)), rv wSegregation_HOUSE, iv (0 : Int32)] [(.int (0 : Int32)), (.int (0 : Int32))] _
    refine XS.icmpNo X3.here hx rfl (hb hby at_56) rfl (teq (rfl : (0 : Int32) = (0 : Int32))).2 ?_
    show St p e below T3 m 59 #[iv i0, iv (i0 &&& (3 : Int32)), rv wSegregation_HOUSE, iv (0 : Int32)] [] _
    refine XS.iconst X3.here hx rfl (hb hby at_59) ?_
    show St p e below T3 m 60 #[iv i0, iv (i0 &&& (3 : Int32)), rv wSegregation_HOUSE, iv (0 : Int32)] [(.int (1 : Int32))] _
    refine XS.goto X3.here hx rfl (pc0 := 60) (pc' := 64) rfl (hb hby at_60) (by decide) (by decide) ?_
    show St p e below T3 m 64 #[iv i0, iv (i0 &&& (3 : Int32)), rv wSegregation_HOUSE, iv (0 : Int32)] [(.int (1 : Int32))] _
    exact retN X3 hx (t := .boolean) Bd.returns (by simp) (hb hby at_64) hr
  · show law_1Q Z wSegregation_HOUSE wSegregation_INDIVIDUAL wSegregation_OMNIBUS wSegregation_GENERAL i0 h0 n0 _ T3.heap _
    rw [e3]
    exact ⟨rfl, N3⟩
theorem d0_14 : decode prog_54_method_5_code 14 = .ok (.iconst 1, 1) := by decide +kernel
theorem d0_15 : decode prog_54_method_5_code 15 = .ok (.goto 4, 3) := by decide +kernel
def r0_2Q (Z : State) (a1 : Addr) (h0 : Heap) (n0 : Nat) (v : Option Value) (h : Heap) (L : List Loc) : Prop := v = some (.int (1 : Int32)) ∧ Fr n0 L ∧ h = h0
theorem r0_2e (m : MethodId) (a1 : Addr) : entryFrame m #[(.ref a1)] 1 = mkF m 0 #[rv a1] [] := by first | (simp [entryFrame, mkF, argsToLocals, Value.category]; done) | rfl
set_option maxRecDepth 65536 in
set_option maxHeartbeats 40000000 in
theorem r0_2 (l : Launch) (Z : State) (a0 : Array Value) (hw : HW a0 Z) (ws : List Jvm.Cond) (a1 : Addr) (h0 : Heap) (n0 : Nat) (O0 : Old Z n0 h0) (H2 : Sta Z Z.heap "com/example/novation/novation/Segregation" "INDIVIDUAL" "Lcom/example/novation/novation/Segregation;" (.ref a1)) :
    MF l y0 prog_54_method_5_code 1 (some .boolean) ws ({ frames := 0, cells := 0, slots := 0, locals := 0 } : Room) Z #[(.ref a1)] h0 (r0_2Q Z a1 h0 n0) := by
  refine MetFree.of_bodySF (plainFor_of_name pn_com_example_novation_novation_Segregation) hisR ?_
  intro p e s m args below meth c s₁ Bd hml0 hP hK
  obtain ⟨rfl, hZ, hh⟩ := hP
  have hx := Bd.exec
  have hby := Bd.bytes
  have hml : c.maxLocals = 1 := hml0
  have hown : s.vm.findClass "com/example/novation/novation/Segregation" = some m.cls := findClass_of_methodNamed Bd.named
  have hnm := (name_of_methodNamed Bd.named Bd.method).1
  have X0 : Stand p l e ({ frames := 0, cells := 0, slots := 0, locals := 0 } : Room) s m #[(.ref a1)] below meth c s₁ [] 0 0 := Stand.of_body Bd
  have e0 : s₁.heap = h0 := by rw [← hh, Bd.state]; rfl
  have N0 := Fr.nil n0
  have pre0 : ∀ t, Steps p.tables e below (s₁.setTop (mkF m 0 #[rv a1] [])) t → Steps p.tables e below (s₁.setTop (entryFrame m #[(.ref a1)] 1)) t := fun t k => castTop (r0_2e m a1) k
  obtain ⟨T3, X3, e3, st3⟩ := getS2 X0 hx hZ hown (host := "") (Or.inl (ow hw 8 rfl)) Via.refl e0 (H2.ext O0.2) (g := (mkF m 1 #[rv a1] [(.ref a1)])) rfl (hb hby d0_1)
  obtain ⟨fs, hr, hrun, hended, hW, hsame⟩ := X3.leave (v := some (.int (1 : Int32))) (fun h => by rw [Bd.returns] at h; cases h)
  refine ⟨_, _, pre0 _ ?_, hrun, hended, _, _, rfl, ?_, ⟨_, rfl⟩, hW, hsame.mono (by decide) (by decide)⟩
  · show St p e below s₁ m 0 #[rv a1] [] _
    refine XS.aloadN X0.here hx rfl (hb hby d0_0) rfl rfl ?_
    show St p e below s₁ m 1 #[rv a1] [(.ref a1)] _
    refine st3 _ ?_
    show St p e below T3 m 4 #[rv a1] [(.ref a1), (.ref a1)] _
    refine Jvm.RoadKit.acmp (g := (mkF m 4 #[rv a1] [(.ref a1), (.ref a1)])) X3 hx rfl rfl rfl (pc0 := 4) (pc' := 14) (same := true) rfl (hb hby d0_4) rfl (decide_eq_true rfl) (by decide) (by decide) ?_
    show St p e below T3 m 14 #[rv a1] [] _
    refine XS.iconst X3.here hx rfl (hb hby d0_14) ?_
    show St p e below T3 m 15 #[rv a1] [(.int (1 : Int32))] _
    refine XS.goto X3.here hx rfl (pc0 := 15) (pc' := 19) rfl (hb hby d0_15) (by decide) (by decide) ?_
    show St p e below T3 m 19 #[rv a1] [(.int (1 : Int32))] _
    exact retN X3 hx (t := .boolean) Bd.returns (by simp) (hb hby d0_19) hr
  · show r0_2Q Z a1 h0 n0 _ T3.heap _
    rw [e3]
    exact ⟨rfl, N0, rfl⟩
def law_2Q (Z : State) (wSegregation_HOUSE : Addr) (wSegregation_INDIVIDUAL : Addr) (wSegregation_OMNIBUS : Addr) (wSegregation_GENERAL : Addr) (i0 : Int32) (h0 : Heap) (n0 : Nat) (v : Option Value) (h : Heap) (L : List Loc) : Prop := v = some (.int (1 : Int32)) ∧ Fr n0 L
theorem law_2e (m : MethodId) (wSegregation_HOUSE : Addr) (wSegregation_INDIVIDUAL : Addr) (wSegregation_OMNIBUS : Addr) (wSegregation_GENERAL : Addr) (i0 : Int32) : entryFrame m #[(.int i0)] maxLocals = mkF m 0 #[iv i0, .unset, .unset, .unset] [] := by first | (simp [entryFrame, mkF, argsToLocals, Value.category, maxLocals]; done) | rfl
set_option maxRecDepth 65536 in
set_option maxHeartbeats 40000000 in
theorem law_2 (l : Launch) (Z : State) (a0 : Array Value) (hw : HW a0 Z) (ws : List Jvm.Cond) (wSegregation_HOUSE : Addr) (wSegregation_INDIVIDUAL : Addr) (wSegregation_OMNIBUS : Addr) (wSegregation_GENERAL : Addr) (B : Base Z wSegregation_HOUSE wSegregation_INDIVIDUAL wSegregation_OMNIBUS wSegregation_GENERAL) (i0 : Int32) (h0 : Heap) (n0 : Nat) (O0 : Old Z n0 h0) (hc1 : ¬ ((i0 &&& (3 : Int32)) = (0 : Int32))) (hc2 : (i0 &&& (3 : Int32)) = (1 : Int32)) :
    MetFree l x (head1 (Jvm.Cond.code x code maxLocals ret :: ws) room_1) (fun a U => a = #[(.int i0)] ∧ Z.Warmed39 U.vm ∧ U.heap = h0) (fun _ _ _ _ _ => True) (fun _ U o U' => ∃ v L, o = .returned v ∧ law_2Q Z wSegregation_HOUSE wSegregation_INDIVIDUAL wSegregation_OMNIBUS wSegregation_GENERAL i0 h0 n0 v U'.heap L ∧ FrameEnd U o U' L room_1.cells room_1.slots) := by
  refine MetFree.of_bodySF (plainFor_of_name pn_com_example_novation_novation_SegregationSegregatedClientPinLaw) hisR ?_
  intro p e s m args below meth c s₁ Bd hml0 hP hK
  obtain ⟨rfl, hZ, hh⟩ := hP
  have hx := Bd.exec
  have hby := Bd.bytes
  have hml : c.maxLocals = 4 := hml0
  have hown : s.vm.findClass "com/example/novation/novation/SegregationSegregatedClientPinLaw" = some m.cls := findClass_of_methodNamed Bd.named
  have hnm := (name_of_methodNamed Bd.named Bd.method).1
  have X0 : Stand p l e room_1 s m #[(.int i0)] below meth c s₁ [] 0 0 := Stand.of_body Bd
  have e0 : s₁.heap = h0 := by rw [← hh, Bd.state]; rfl
  have N0 := Fr.nil n0
  have pre0 : ∀ t, Steps p.tables e below (s₁.setTop (mkF m 0 #[iv i0, .unset, .unset, .unset] [])) t → Steps p.tables e below (s₁.setTop (entryFrame m #[(.int i0)] maxLocals)) t := fun t k => castTop (law_2e m wSegregation_HOUSE wSegregation_INDIVIDUAL wSegregation_OMNIBUS wSegregation_GENERAL i0) k
  obtain ⟨T3, X3, e3, st3⟩ := getS2 X0 hx hZ hown (host := "") (Or.inl (ow hw 15 rfl)) Via.refl e0 (B.2.2.1.ext O0.2) (g := (mkF m 22 #[iv i0, iv (i0 &&& (3 : Int32)), .unset, .unset] [])) rfl (hb hby at_22)
  obtain ⟨cq4, kq4, q4a, q4b, q4c⟩ := isOf hZ e3 (B.2.2.2.1.ext O0.2)
  obtain ⟨_, _, ⟨T4, L4, k4, n4⟩, -, X4, ⟨Lc4, hQ4, l4, y4, z4⟩, st4⟩ := X3.virtualBack hx (y := y0) (z := y0) hown (mvT hZ (ow hw 3 rfl)) (mvT hZ (ow hw 4 rfl)) (notFace_of_selects (args := #[]) (mvT hZ (ow hw 6 rfl))) (mvT hZ (ow hw 6 rfl)) (mvT hZ (ow hw 5 rfl)) (by decide) (backOf (W := 0) (r0_2 l Z a0 hw [] wSegregation_INDIVIDUAL h0 n0 O0 B.2.2.1) hZ (ow hw 7 rfl) (ow hw 1 rfl) (by decide) (by decide)) q4a q4c (g := (mkF m 52 #[iv i0, iv (i0 &&& (3 : Int32)), rv wSegregation_INDIVIDUAL, iv (1 : Int32)] [(.ref wSegregation_INDIVIDUAL)])) rfl (by rw [hml]; rfl) (Steps.refl _) (argsL := []) (rest := []) (lenOf pd___Z rfl) rfl (by show 2 * 0 + _ ≤ _; exact Nat.le_of_eq rfl) (hb hby at_52) (fun _ _ => ⟨rfl, e3, (by decide : 0 + 0 ≤ _), (by decide : 0 + 0 ≤ _)⟩)
  dsimp only [Pt.U, Pt.locs, Pt.cells, Pt.slots] at X4 l4 y4 z4 st4 hQ4
  subst l4 y4 z4
  obtain ⟨rfl, N4q, e4⟩ := hQ4
  have N4 := Fr.app N0 N4q
  obtain ⟨fs, hr, hrun, hended, hW, hsame⟩ := X4.leave (v := some (.int (1 : Int32))) (fun h => by rw [Bd.returns] at h; cases h)
  refine ⟨_, _, pre0 _ ?_, hrun, hended, _, _, rfl, ?_, ⟨_, rfl⟩, hW, hsame.mono (by decide) (by decide)⟩
  · show St p e below s₁ m 0 #[iv i0, .unset, .unset, .unset] [] _
    refine XS.iloadN X0.here hx rfl (hb hby at_0) rfl ?_
    show St p e below s₁ m 1 #[iv i0, .unset, .unset, .unset] [(.int i0)] _
    refine XS.iconst X0.here hx rfl (hb hby at_1) ?_
    show St p e below s₁ m 2 #[iv i0, .unset, .unset, .unset] [(.int (3 : Int32)), (.int i0)] _
    refine XS.iand X0.here hx rfl (hb hby at_2) rfl ?_
    show St p e below s₁ m 3 #[iv i0, .unset, .unset, .unset] [(.int (i0 &&& (3 : Int32)))] _
    refine XS.istoreN X0.here hx rfl (hb hby at_3) rfl (l' := #[iv i0, iv (i0 &&& (3 : Int32)), .unset, .unset]) rfl ?_
    show St p e below s₁ m 4 #[iv i0, iv (i0 &&& (3 : Int32)), .unset, .unset] [] _
    refine XS.iloadN X0.here hx rfl (hb hby at_4) rfl ?_
    show St p e below s₁ m 5 #[iv i0, iv (i0 &&& (3 : Int32)), .unset, .unset] [(.int (i0 &&& (3 : Int32)))] _
    refine XS.ifYes X0.here hx rfl (pc0 := 5) (pc' := 17) rfl (hb hby at_5) rfl ((if0 _ _).trans (feq hc1).2) (by decide) (by decide) ?_
    show St p e below s₁ m 17 #[iv i0, iv (i0 &&& (3 : Int32)), .unset, .unset] [] _
    refine XS.iloadN X0.here hx rfl (hb hby at_17) rfl ?_
    show St p e below s₁ m 18 #[iv i0, iv (i0 &&& (3 : Int32)), .unset, .unset] [(.int (i0 &&& (3 : Int32)))] _
    refine XS.iconst X0.here hx rfl (hb hby at_18) ?_
    show St p e below s₁ m 19 #[iv i0, iv (i0 &&& (3 : Int32)), .unset, .unset] [(.int (1 : Int32)), (.int (i0 &&& (3 : Int32)))] _
    refine XS.icmpNo X0.here hx rfl (hb hby at_19) rfl (teq hc2).2 ?_
    show St p e below s₁ m 22 #[iv i0, iv (i0 &&& (3 : Int32)), .unset, .unset] [] _
    refine st3 _ ?_
    show St p e below T3 m 25 #[iv i0, iv (i0 &&& (3 : Int32)), .unset, .unset] [(.ref wSegregation_INDIVIDUAL)] _
    refine XS.astoreN X3.here hx rfl (hb hby at_25) rfl rfl (l' := #[iv i0, iv (i0 &&& (3 : Int32)), rv wSegregation_INDIVIDUAL, .unset]) rfl ?_
    show St p e below T3 m 26 #[iv i0, iv (i0 &&& (3 : Int32)), rv wSegregation_INDIVIDUAL, .unset] [] _
    refine XS.iconst X3.here hx rfl (hb hby at_26) ?_
    show St p e below T3 m 27 #[iv i0, iv (i0 &&& (3 : Int32)), rv wSegregation_INDIVIDUAL, .unset] [(.int (1 : Int32))] _
    refine XS.istoreN X3.here hx rfl (hb hby at_27) rfl (l' := #[iv i0, iv (i0 &&& (3 : Int32)), rv wSegregation_INDIVIDUAL, iv (1 : Int32)]) rfl ?_
    show St p e below T3 m 28 #[iv i0, iv (i0 &&& (3 : Int32)), rv wSegregation_INDIVIDUAL, iv (1 : Int32)] [] _
    refine XS.goto X3.here hx rfl (pc0 := 28) (pc' := 51) rfl (hb hby at_28) (by decide) (by decide) ?_
    show St p e below T3 m 51 #[iv i0, iv (i0 &&& (3 : Int32)), rv wSegregation_INDIVIDUAL, iv (1 : Int32)] [] _
    refine XS.aloadN X3.here hx rfl (hb hby at_51) rfl rfl ?_
    show St p e below T3 m 52 #[iv i0, iv (i0 &&& (3 : Int32)), rv wSegregation_INDIVIDUAL, iv (1 : Int32)] [(.ref wSegregation_INDIVIDUAL)] _
    refine st4.trans ?_
    show St p e below T4 m 55 #[iv i0, iv (i0 &&& (3 : Int32)), rv wSegregation_INDIVIDUAL, iv (1 : Int32)] [(.int (1 : Int32))] _
    refine XS.iloadN X4.here hx rfl (hb hby at_55) rfl ?_
    show St p e below T4 m 56 #[iv i0, iv (i0 &&& (3 : Int32)), rv wSegregation_INDIVIDUAL, iv (1 : Int32)] [(.int (1 : Int32)), (.int (1 : Int32))] _
    refine XS.icmpNo X4.here hx rfl (hb hby at_56) rfl (teq (rfl : (1 : Int32) = (1 : Int32))).2 ?_
    show St p e below T4 m 59 #[iv i0, iv (i0 &&& (3 : Int32)), rv wSegregation_INDIVIDUAL, iv (1 : Int32)] [] _
    refine XS.iconst X4.here hx rfl (hb hby at_59) ?_
    show St p e below T4 m 60 #[iv i0, iv (i0 &&& (3 : Int32)), rv wSegregation_INDIVIDUAL, iv (1 : Int32)] [(.int (1 : Int32))] _
    refine XS.goto X4.here hx rfl (pc0 := 60) (pc' := 64) rfl (hb hby at_60) (by decide) (by decide) ?_
    show St p e below T4 m 64 #[iv i0, iv (i0 &&& (3 : Int32)), rv wSegregation_INDIVIDUAL, iv (1 : Int32)] [(.int (1 : Int32))] _
    exact retN X4 hx (t := .boolean) Bd.returns (by simp) (hb hby at_64) hr
  · show law_2Q Z wSegregation_HOUSE wSegregation_INDIVIDUAL wSegregation_OMNIBUS wSegregation_GENERAL i0 h0 n0 _ T4.heap _
    rw [e4]
    exact ⟨rfl, N4⟩
def r0_3Q (Z : State) (a1 : Addr) (a2 : Addr) (h0 : Heap) (n0 : Nat) (v : Option Value) (h : Heap) (L : List Loc) : Prop := v = some (.int (1 : Int32)) ∧ Fr n0 L ∧ h = h0
theorem r0_3e (m : MethodId) (a1 : Addr) (a2 : Addr) : entryFrame m #[(.ref a1)] 1 = mkF m 0 #[rv a1] [] := by first | (simp [entryFrame, mkF, argsToLocals, Value.category]; done) | rfl
set_option maxRecDepth 65536 in
set_option maxHeartbeats 40000000 in
theorem r0_3 (l : Launch) (Z : State) (a0 : Array Value) (hw : HW a0 Z) (ws : List Jvm.Cond) (a1 : Addr) (a2 : Addr) (h0 : Heap) (n0 : Nat) (O0 : Old Z n0 h0) (H3 : Sta Z Z.heap "com/example/novation/novation/Segregation" "INDIVIDUAL" "Lcom/example/novation/novation/Segregation;" (.ref a2)) (H5 : a1 ≠ a2) (H6 : Sta Z Z.heap "com/example/novation/novation/Segregation" "OMNIBUS" "Lcom/example/novation/novation/Segregation;" (.ref a1)) :
    MF l y0 prog_54_method_5_code 1 (some .boolean) ws ({ frames := 0, cells := 0, slots := 0, locals := 0 } : Room) Z #[(.ref a1)] h0 (r0_3Q Z a1 a2 h0 n0) := by
  refine MetFree.of_bodySF (plainFor_of_name pn_com_example_novation_novation_Segregation) hisR ?_
  intro p e s m args below meth c s₁ Bd hml0 hP hK
  obtain ⟨rfl, hZ, hh⟩ := hP
  have hx := Bd.exec
  have hby := Bd.bytes
  have hml : c.maxLocals = 1 := hml0
  have hown : s.vm.findClass "com/example/novation/novation/Segregation" = some m.cls := findClass_of_methodNamed Bd.named
  have hnm := (name_of_methodNamed Bd.named Bd.method).1
  have X0 : Stand p l e ({ frames := 0, cells := 0, slots := 0, locals := 0 } : Room) s m #[(.ref a1)] below meth c s₁ [] 0 0 := Stand.of_body Bd
  have e0 : s₁.heap = h0 := by rw [← hh, Bd.state]; rfl
  have N0 := Fr.nil n0
  have pre0 : ∀ t, Steps p.tables e below (s₁.setTop (mkF m 0 #[rv a1] [])) t → Steps p.tables e below (s₁.setTop (entryFrame m #[(.ref a1)] 1)) t := fun t k => castTop (r0_3e m a1 a2) k
  obtain ⟨T4, X4, e4, st4⟩ := getS2 X0 hx hZ hown (host := "") (Or.inl (ow hw 8 rfl)) Via.refl e0 (H3.ext O0.2) (g := (mkF m 1 #[rv a1] [(.ref a1)])) rfl (hb hby d0_1)
  obtain ⟨T7, X7, e7, st7⟩ := getS2 X4 hx hZ hown (host := "") (Or.inl (ow hw 10 rfl)) Via.refl e4 (H6.ext O0.2) (g := (mkF m 8 #[rv a1] [(.ref a1)])) rfl (hb hby d0_8)
  obtain ⟨fs, hr, hrun, hended, hW, hsame⟩ := X7.leave (v := some (.int (1 : Int32))) (fun h => by rw [Bd.returns] at h; cases h)
  refine ⟨_, _, pre0 _ ?_, hrun, hended, _, _, rfl, ?_, ⟨_, rfl⟩, hW, hsame.mono (by decide) (by decide)⟩
  · show St p e below s₁ m 0 #[rv a1] [] _
    refine XS.aloadN X0.here hx rfl (hb hby d0_0) rfl rfl ?_
    show St p e below s₁ m 1 #[rv a1] [(.ref a1)] _
    refine st4 _ ?_
    show St p e below T4 m 4 #[rv a1] [(.ref a2), (.ref a1)] _
    refine Jvm.RoadKit.acmp (g := (mkF m 4 #[rv a1] [(.ref a2), (.ref a1)])) X4 hx rfl rfl rfl (pc0 := 4) (pc' := 7) (same := false) rfl (hb hby d0_4) rfl (decide_eq_false fun q => H5 (Value.ref.inj q)) (by decide) (by decide) ?_
    show St p e below T4 m 7 #[rv a1] [] _
    refine XS.aloadN X4.here hx rfl (hb hby d0_7) rfl rfl ?_
    show St p e below T4 m 8 #[rv a1] [(.ref a1)] _
    refine st7 _ ?_
    show St p e below T7 m 11 #[rv a1] [(.ref a1), (.ref a1)] _
    refine Jvm.RoadKit.acmp (g := (mkF m 11 #[rv a1] [(.ref a1), (.ref a1)])) X7 hx rfl rfl rfl (pc0 := 11) (pc' := 14) (same := true) rfl (hb hby d0_11) rfl (decide_eq_true rfl) (by decide) (by decide) ?_
    show St p e below T7 m 14 #[rv a1] [] _
    refine XS.iconst X7.here hx rfl (hb hby d0_14) ?_
    show St p e below T7 m 15 #[rv a1] [(.int (1 : Int32))] _
    refine XS.goto X7.here hx rfl (pc0 := 15) (pc' := 19) rfl (hb hby d0_15) (by decide) (by decide) ?_
    show St p e below T7 m 19 #[rv a1] [(.int (1 : Int32))] _
    exact retN X7 hx (t := .boolean) Bd.returns (by simp) (hb hby d0_19) hr
  · show r0_3Q Z a1 a2 h0 n0 _ T7.heap _
    rw [e7]
    exact ⟨rfl, N0, rfl⟩
def law_3Q (Z : State) (wSegregation_HOUSE : Addr) (wSegregation_INDIVIDUAL : Addr) (wSegregation_OMNIBUS : Addr) (wSegregation_GENERAL : Addr) (i0 : Int32) (h0 : Heap) (n0 : Nat) (v : Option Value) (h : Heap) (L : List Loc) : Prop := v = some (.int (1 : Int32)) ∧ Fr n0 L
theorem law_3e (m : MethodId) (wSegregation_HOUSE : Addr) (wSegregation_INDIVIDUAL : Addr) (wSegregation_OMNIBUS : Addr) (wSegregation_GENERAL : Addr) (i0 : Int32) : entryFrame m #[(.int i0)] maxLocals = mkF m 0 #[iv i0, .unset, .unset, .unset] [] := by first | (simp [entryFrame, mkF, argsToLocals, Value.category, maxLocals]; done) | rfl
set_option maxRecDepth 65536 in
set_option maxHeartbeats 40000000 in
theorem law_3 (l : Launch) (Z : State) (a0 : Array Value) (hw : HW a0 Z) (ws : List Jvm.Cond) (wSegregation_HOUSE : Addr) (wSegregation_INDIVIDUAL : Addr) (wSegregation_OMNIBUS : Addr) (wSegregation_GENERAL : Addr) (B : Base Z wSegregation_HOUSE wSegregation_INDIVIDUAL wSegregation_OMNIBUS wSegregation_GENERAL) (i0 : Int32) (h0 : Heap) (n0 : Nat) (O0 : Old Z n0 h0) (hc1 : ¬ ((i0 &&& (3 : Int32)) = (0 : Int32))) (hc2 : ¬ ((i0 &&& (3 : Int32)) = (1 : Int32))) (hc3 : (i0 &&& (3 : Int32)) = (2 : Int32)) :
    MetFree l x (head1 (Jvm.Cond.code x code maxLocals ret :: ws) room_1) (fun a U => a = #[(.int i0)] ∧ Z.Warmed39 U.vm ∧ U.heap = h0) (fun _ _ _ _ _ => True) (fun _ U o U' => ∃ v L, o = .returned v ∧ law_3Q Z wSegregation_HOUSE wSegregation_INDIVIDUAL wSegregation_OMNIBUS wSegregation_GENERAL i0 h0 n0 v U'.heap L ∧ FrameEnd U o U' L room_1.cells room_1.slots) := by
  refine MetFree.of_bodySF (plainFor_of_name pn_com_example_novation_novation_SegregationSegregatedClientPinLaw) hisR ?_
  intro p e s m args below meth c s₁ Bd hml0 hP hK
  obtain ⟨rfl, hZ, hh⟩ := hP
  have hx := Bd.exec
  have hby := Bd.bytes
  have hml : c.maxLocals = 4 := hml0
  have hown : s.vm.findClass "com/example/novation/novation/SegregationSegregatedClientPinLaw" = some m.cls := findClass_of_methodNamed Bd.named
  have hnm := (name_of_methodNamed Bd.named Bd.method).1
  have X0 : Stand p l e room_1 s m #[(.int i0)] below meth c s₁ [] 0 0 := Stand.of_body Bd
  have e0 : s₁.heap = h0 := by rw [← hh, Bd.state]; rfl
  have N0 := Fr.nil n0
  have pre0 : ∀ t, Steps p.tables e below (s₁.setTop (mkF m 0 #[iv i0, .unset, .unset, .unset] [])) t → Steps p.tables e below (s₁.setTop (entryFrame m #[(.int i0)] maxLocals)) t := fun t k => castTop (law_3e m wSegregation_HOUSE wSegregation_INDIVIDUAL wSegregation_OMNIBUS wSegregation_GENERAL i0) k
  obtain ⟨T4, X4, e4, st4⟩ := getS2 X0 hx hZ hown (host := "") (Or.inl (ow hw 14 rfl)) Via.refl e0 (B.2.2.2.2.1.ext O0.2) (g := (mkF m 36 #[iv i0, iv (i0 &&& (3 : Int32)), .unset, .unset] [])) rfl (hb hby at_36)
  obtain ⟨cq5, kq5, q5a, q5b, q5c⟩ := isOf hZ e4 (B.2.2.2.2.2.1.ext O0.2)
  obtain ⟨_, _, ⟨T5, L5, k5, n5⟩, -, X5, ⟨Lc5, hQ5, l5, y5, z5⟩, st5⟩ := X4.virtualBack hx (y := y0) (z := y0) hown (mvT hZ (ow hw 3 rfl)) (mvT hZ (ow hw 4 rfl)) (notFace_of_selects (args := #[]) (mvT hZ (ow hw 6 rfl))) (mvT hZ (ow hw 6 rfl)) (mvT hZ (ow hw 5 rfl)) (by decide) (backOf (W := 0) (r0_3 l Z a0 hw [] wSegregation_OMNIBUS wSegregation_INDIVIDUAL h0 n0 O0 B.2.2.1 (Ne.symm B.2.2.2.2.2.2.2.2.2.2.2.2.2.2.2.1) B.2.2.2.2.1) hZ (ow hw 7 rfl) (ow hw 1 rfl) (by decide) (by decide)) q5a q5c (g := (mkF m 52 #[iv i0, iv (i0 &&& (3 : Int32)), rv wSegregation_OMNIBUS, iv (1 : Int32)] [(.ref wSegregation_OMNIBUS)])) rfl (by rw [hml]; rfl) (Steps.refl _) (argsL := []) (rest := []) (lenOf pd___Z rfl) rfl (by show 2 * 0 + _ ≤ _; exact Nat.le_of_eq rfl) (hb hby at_52) (fun _ _ => ⟨rfl, e4, (by decide : 0 + 0 ≤ _), (by decide : 0 + 0 ≤ _)⟩)
  dsimp only [Pt.U, Pt.locs, Pt.cells, Pt.slots] at X5 l5 y5 z5 st5 hQ5
  subst l5 y5 z5
  obtain ⟨rfl, N5q, e5⟩ := hQ5
  have N5 := Fr.app N0 N5q
  obtain ⟨fs, hr, hrun, hended, hW, hsame⟩ := X5.leave (v := some (.int (1 : Int32))) (fun h => by rw [Bd.returns] at h; cases h)
  refine ⟨_, _, pre0 _ ?_, hrun, hended, _, _, rfl, ?_, ⟨_, rfl⟩, hW, hsame.mono (by decide) (by decide)⟩
  · show St p e below s₁ m 0 #[iv i0, .unset, .unset, .unset] [] _
    refine XS.iloadN X0.here hx rfl (hb hby at_0) rfl ?_
    show St p e below s₁ m 1 #[iv i0, .unset, .unset, .unset] [(.int i0)] _
    refine XS.iconst X0.here hx rfl (hb hby at_1) ?_
    show St p e below s₁ m 2 #[iv i0, .unset, .unset, .unset] [(.int (3 : Int32)), (.int i0)] _
    refine XS.iand X0.here hx rfl (hb hby at_2) rfl ?_
    show St p e below s₁ m 3 #[iv i0, .unset, .unset, .unset] [(.int (i0 &&& (3 : Int32)))] _
    refine XS.istoreN X0.here hx rfl (hb hby at_3) rfl (l' := #[iv i0, iv (i0 &&& (3 : Int32)), .unset, .unset]) rfl ?_
    show St p e below s₁ m 4 #[iv i0, iv (i0 &&& (3 : Int32)), .unset, .unset] [] _
    refine XS.iloadN X0.here hx rfl (hb hby at_4) rfl ?_
    show St p e below s₁ m 5 #[iv i0, iv (i0 &&& (3 : Int32)), .unset, .unset] [(.int (i0 &&& (3 : Int32)))] _
    refine XS.ifYes X0.here hx rfl (pc0 := 5) (pc' := 17) rfl (hb hby at_5) rfl ((if0 _ _).trans (feq hc1).2) (by decide) (by decide) ?_
    show St p e below s₁ m 17 #[iv i0, iv (i0 &&& (3 : Int32)), .unset, .unset] [] _
    refine XS.iloadN X0.here hx rfl (hb hby at_17) rfl ?_
    show St p e below s₁ m 18 #[iv i0, iv (i0 &&& (3 : Int32)), .unset, .unset] [(.int (i0 &&& (3 : Int32)))] _
    refine XS.iconst X0.here hx rfl (hb hby at_18) ?_
    show St p e below s₁ m 19 #[iv i0, iv (i0 &&& (3 : Int32)), .unset, .unset] [(.int (1 : Int32)), (.int (i0 &&& (3 : Int32)))] _
    refine XS.icmpYes X0.here hx rfl (pc0 := 19) (pc' := 31) rfl (hb hby at_19) rfl (feq hc2).2 (by decide) (by decide) ?_
    show St p e below s₁ m 31 #[iv i0, iv (i0 &&& (3 : Int32)), .unset, .unset] [] _
    refine XS.iloadN X0.here hx rfl (hb hby at_31) rfl ?_
    show St p e below s₁ m 32 #[iv i0, iv (i0 &&& (3 : Int32)), .unset, .unset] [(.int (i0 &&& (3 : Int32)))] _
    refine XS.iconst X0.here hx rfl (hb hby at_32) ?_
    show St p e below s₁ m 33 #[iv i0, iv (i0 &&& (3 : Int32)), .unset, .unset] [(.int (2 : Int32)), (.int (i0 &&& (3 : Int32)))] _
    refine XS.icmpNo X0.here hx rfl (hb hby at_33) rfl (teq hc3).2 ?_
    show St p e below s₁ m 36 #[iv i0, iv (i0 &&& (3 : Int32)), .unset, .unset] [] _
    refine st4 _ ?_
    show St p e below T4 m 39 #[iv i0, iv (i0 &&& (3 : Int32)), .unset, .unset] [(.ref wSegregation_OMNIBUS)] _
    refine XS.astoreN X4.here hx rfl (hb hby at_39) rfl rfl (l' := #[iv i0, iv (i0 &&& (3 : Int32)), rv wSegregation_OMNIBUS, .unset]) rfl ?_
    show St p e below T4 m 40 #[iv i0, iv (i0 &&& (3 : Int32)), rv wSegregation_OMNIBUS, .unset] [] _
    refine XS.iconst X4.here hx rfl (hb hby at_40) ?_
    show St p e below T4 m 41 #[iv i0, iv (i0 &&& (3 : Int32)), rv wSegregation_OMNIBUS, .unset] [(.int (1 : Int32))] _
    refine XS.istoreN X4.here hx rfl (hb hby at_41) rfl (l' := #[iv i0, iv (i0 &&& (3 : Int32)), rv wSegregation_OMNIBUS, iv (1 : Int32)]) rfl ?_
    show St p e below T4 m 42 #[iv i0, iv (i0 &&& (3 : Int32)), rv wSegregation_OMNIBUS, iv (1 : Int32)] [] _
    refine XS.goto X4.here hx rfl (pc0 := 42) (pc' := 51) rfl (hb hby at_42) (by decide) (by decide) ?_
    show St p e below T4 m 51 #[iv i0, iv (i0 &&& (3 : Int32)), rv wSegregation_OMNIBUS, iv (1 : Int32)] [] _
    refine XS.aloadN X4.here hx rfl (hb hby at_51) rfl rfl ?_
    show St p e below T4 m 52 #[iv i0, iv (i0 &&& (3 : Int32)), rv wSegregation_OMNIBUS, iv (1 : Int32)] [(.ref wSegregation_OMNIBUS)] _
    refine st5.trans ?_
    show St p e below T5 m 55 #[iv i0, iv (i0 &&& (3 : Int32)), rv wSegregation_OMNIBUS, iv (1 : Int32)] [(.int (1 : Int32))] _
    refine XS.iloadN X5.here hx rfl (hb hby at_55) rfl ?_
    show St p e below T5 m 56 #[iv i0, iv (i0 &&& (3 : Int32)), rv wSegregation_OMNIBUS, iv (1 : Int32)] [(.int (1 : Int32)), (.int (1 : Int32))] _
    refine XS.icmpNo X5.here hx rfl (hb hby at_56) rfl (teq (rfl : (1 : Int32) = (1 : Int32))).2 ?_
    show St p e below T5 m 59 #[iv i0, iv (i0 &&& (3 : Int32)), rv wSegregation_OMNIBUS, iv (1 : Int32)] [] _
    refine XS.iconst X5.here hx rfl (hb hby at_59) ?_
    show St p e below T5 m 60 #[iv i0, iv (i0 &&& (3 : Int32)), rv wSegregation_OMNIBUS, iv (1 : Int32)] [(.int (1 : Int32))] _
    refine XS.goto X5.here hx rfl (pc0 := 60) (pc' := 64) rfl (hb hby at_60) (by decide) (by decide) ?_
    show St p e below T5 m 64 #[iv i0, iv (i0 &&& (3 : Int32)), rv wSegregation_OMNIBUS, iv (1 : Int32)] [(.int (1 : Int32))] _
    exact retN X5 hx (t := .boolean) Bd.returns (by simp) (hb hby at_64) hr
  · show law_3Q Z wSegregation_HOUSE wSegregation_INDIVIDUAL wSegregation_OMNIBUS wSegregation_GENERAL i0 h0 n0 _ T5.heap _
    rw [e5]
    exact ⟨rfl, N5⟩
def law_4Q (Z : State) (wSegregation_HOUSE : Addr) (wSegregation_INDIVIDUAL : Addr) (wSegregation_OMNIBUS : Addr) (wSegregation_GENERAL : Addr) (i0 : Int32) (h0 : Heap) (n0 : Nat) (v : Option Value) (h : Heap) (L : List Loc) : Prop := v = some (.int (1 : Int32)) ∧ Fr n0 L
theorem law_4e (m : MethodId) (wSegregation_HOUSE : Addr) (wSegregation_INDIVIDUAL : Addr) (wSegregation_OMNIBUS : Addr) (wSegregation_GENERAL : Addr) (i0 : Int32) : entryFrame m #[(.int i0)] maxLocals = mkF m 0 #[iv i0, .unset, .unset, .unset] [] := by first | (simp [entryFrame, mkF, argsToLocals, Value.category, maxLocals]; done) | rfl
set_option maxRecDepth 65536 in
set_option maxHeartbeats 40000000 in
theorem law_4 (l : Launch) (Z : State) (a0 : Array Value) (hw : HW a0 Z) (ws : List Jvm.Cond) (wSegregation_HOUSE : Addr) (wSegregation_INDIVIDUAL : Addr) (wSegregation_OMNIBUS : Addr) (wSegregation_GENERAL : Addr) (B : Base Z wSegregation_HOUSE wSegregation_INDIVIDUAL wSegregation_OMNIBUS wSegregation_GENERAL) (i0 : Int32) (h0 : Heap) (n0 : Nat) (O0 : Old Z n0 h0) (hc1 : ¬ ((i0 &&& (3 : Int32)) = (0 : Int32))) (hc2 : ¬ ((i0 &&& (3 : Int32)) = (1 : Int32))) (hc3 : ¬ ((i0 &&& (3 : Int32)) = (2 : Int32))) :
    MetFree l x (head1 (Jvm.Cond.code x code maxLocals ret :: ws) room_1) (fun a U => a = #[(.int i0)] ∧ Z.Warmed39 U.vm ∧ U.heap = h0) (fun _ _ _ _ _ => True) (fun _ U o U' => ∃ v L, o = .returned v ∧ law_4Q Z wSegregation_HOUSE wSegregation_INDIVIDUAL wSegregation_OMNIBUS wSegregation_GENERAL i0 h0 n0 v U'.heap L ∧ FrameEnd U o U' L room_1.cells room_1.slots) := by
  refine MetFree.of_bodySF (plainFor_of_name pn_com_example_novation_novation_SegregationSegregatedClientPinLaw) hisR ?_
  intro p e s m args below meth c s₁ Bd hml0 hP hK
  obtain ⟨rfl, hZ, hh⟩ := hP
  have hx := Bd.exec
  have hby := Bd.bytes
  have hml : c.maxLocals = 4 := hml0
  have hown : s.vm.findClass "com/example/novation/novation/SegregationSegregatedClientPinLaw" = some m.cls := findClass_of_methodNamed Bd.named
  have hnm := (name_of_methodNamed Bd.named Bd.method).1
  have X0 : Stand p l e room_1 s m #[(.int i0)] below meth c s₁ [] 0 0 := Stand.of_body Bd
  have e0 : s₁.heap = h0 := by rw [← hh, Bd.state]; rfl
  have N0 := Fr.nil n0
  have pre0 : ∀ t, Steps p.tables e below (s₁.setTop (mkF m 0 #[iv i0, .unset, .unset, .unset] [])) t → Steps p.tables e below (s₁.setTop (entryFrame m #[(.int i0)] maxLocals)) t := fun t k => castTop (law_4e m wSegregation_HOUSE wSegregation_INDIVIDUAL wSegregation_OMNIBUS wSegregation_GENERAL i0) k
  obtain ⟨T4, X4, e4, st4⟩ := getS2 X0 hx hZ hown (host := "") (Or.inl (ow hw 12 rfl)) Via.refl e0 (B.2.2.2.2.2.2.1.ext O0.2) (g := (mkF m 45 #[iv i0, iv (i0 &&& (3 : Int32)), .unset, .unset] [])) rfl (hb hby at_45)
  obtain ⟨cq5, kq5, q5a, q5b, q5c⟩ := isOf hZ e4 (B.2.2.2.2.2.2.2.1.ext O0.2)
  obtain ⟨_, _, ⟨T5, L5, k5, n5⟩, -, X5, ⟨Lc5, hQ5, l5, y5, z5⟩, st5⟩ := X4.virtualBack hx (y := y0) (z := y0) hown (mvT hZ (ow hw 3 rfl)) (mvT hZ (ow hw 4 rfl)) (notFace_of_selects (args := #[]) (mvT hZ (ow hw 6 rfl))) (mvT hZ (ow hw 6 rfl)) (mvT hZ (ow hw 5 rfl)) (by decide) (backOf (W := 0) (r0_1 l Z a0 hw [] wSegregation_GENERAL wSegregation_INDIVIDUAL wSegregation_OMNIBUS h0 n0 O0 B.2.2.1 (Ne.symm B.2.2.2.2.2.2.2.2.2.2.2.2.2.2.2.2.1) B.2.2.2.2.1 (Ne.symm B.2.2.2.2.2.2.2.2.2.2.2.2.2.2.2.2.2)) hZ (ow hw 7 rfl) (ow hw 1 rfl) (by decide) (by decide)) q5a q5c (g := (mkF m 52 #[iv i0, iv (i0 &&& (3 : Int32)), rv wSegregation_GENERAL, iv (0 : Int32)] [(.ref wSegregation_GENERAL)])) rfl (by rw [hml]; rfl) (Steps.refl _) (argsL := []) (rest := []) (lenOf pd___Z rfl) rfl (by show 2 * 0 + _ ≤ _; exact Nat.le_of_eq rfl) (hb hby at_52) (fun _ _ => ⟨rfl, e4, (by decide : 0 + 0 ≤ _), (by decide : 0 + 0 ≤ _)⟩)
  dsimp only [Pt.U, Pt.locs, Pt.cells, Pt.slots] at X5 l5 y5 z5 st5 hQ5
  subst l5 y5 z5
  obtain ⟨rfl, N5q, e5⟩ := hQ5
  have N5 := Fr.app N0 N5q
  obtain ⟨fs, hr, hrun, hended, hW, hsame⟩ := X5.leave (v := some (.int (1 : Int32))) (fun h => by rw [Bd.returns] at h; cases h)
  refine ⟨_, _, pre0 _ ?_, hrun, hended, _, _, rfl, ?_, ⟨_, rfl⟩, hW, hsame.mono (by decide) (by decide)⟩
  · show St p e below s₁ m 0 #[iv i0, .unset, .unset, .unset] [] _
    refine XS.iloadN X0.here hx rfl (hb hby at_0) rfl ?_
    show St p e below s₁ m 1 #[iv i0, .unset, .unset, .unset] [(.int i0)] _
    refine XS.iconst X0.here hx rfl (hb hby at_1) ?_
    show St p e below s₁ m 2 #[iv i0, .unset, .unset, .unset] [(.int (3 : Int32)), (.int i0)] _
    refine XS.iand X0.here hx rfl (hb hby at_2) rfl ?_
    show St p e below s₁ m 3 #[iv i0, .unset, .unset, .unset] [(.int (i0 &&& (3 : Int32)))] _
    refine XS.istoreN X0.here hx rfl (hb hby at_3) rfl (l' := #[iv i0, iv (i0 &&& (3 : Int32)), .unset, .unset]) rfl ?_
    show St p e below s₁ m 4 #[iv i0, iv (i0 &&& (3 : Int32)), .unset, .unset] [] _
    refine XS.iloadN X0.here hx rfl (hb hby at_4) rfl ?_
    show St p e below s₁ m 5 #[iv i0, iv (i0 &&& (3 : Int32)), .unset, .unset] [(.int (i0 &&& (3 : Int32)))] _
    refine XS.ifYes X0.here hx rfl (pc0 := 5) (pc' := 17) rfl (hb hby at_5) rfl ((if0 _ _).trans (feq hc1).2) (by decide) (by decide) ?_
    show St p e below s₁ m 17 #[iv i0, iv (i0 &&& (3 : Int32)), .unset, .unset] [] _
    refine XS.iloadN X0.here hx rfl (hb hby at_17) rfl ?_
    show St p e below s₁ m 18 #[iv i0, iv (i0 &&& (3 : Int32)), .unset, .unset] [(.int (i0 &&& (3 : Int32)))] _
    refine XS.iconst X0.here hx rfl (hb hby at_18) ?_
    show St p e below s₁ m 19 #[iv i0, iv (i0 &&& (3 : Int32)), .unset, .unset] [(.int (1 : Int32)), (.int (i0 &&& (3 : Int32)))] _
    refine XS.icmpYes X0.here hx rfl (pc0 := 19) (pc' := 31) rfl (hb hby at_19) rfl (feq hc2).2 (by decide) (by decide) ?_
    show St p e below s₁ m 31 #[iv i0, iv (i0 &&& (3 : Int32)), .unset, .unset] [] _
    refine XS.iloadN X0.here hx rfl (hb hby at_31) rfl ?_
    show St p e below s₁ m 32 #[iv i0, iv (i0 &&& (3 : Int32)), .unset, .unset] [(.int (i0 &&& (3 : Int32)))] _
    refine XS.iconst X0.here hx rfl (hb hby at_32) ?_
    show St p e below s₁ m 33 #[iv i0, iv (i0 &&& (3 : Int32)), .unset, .unset] [(.int (2 : Int32)), (.int (i0 &&& (3 : Int32)))] _
    refine XS.icmpYes X0.here hx rfl (pc0 := 33) (pc' := 45) rfl (hb hby at_33) rfl (feq hc3).2 (by decide) (by decide) ?_
    show St p e below s₁ m 45 #[iv i0, iv (i0 &&& (3 : Int32)), .unset, .unset] [] _
    refine st4 _ ?_
    show St p e below T4 m 48 #[iv i0, iv (i0 &&& (3 : Int32)), .unset, .unset] [(.ref wSegregation_GENERAL)] _
    refine XS.astoreN X4.here hx rfl (hb hby at_48) rfl rfl (l' := #[iv i0, iv (i0 &&& (3 : Int32)), rv wSegregation_GENERAL, .unset]) rfl ?_
    show St p e below T4 m 49 #[iv i0, iv (i0 &&& (3 : Int32)), rv wSegregation_GENERAL, .unset] [] _
    refine XS.iconst X4.here hx rfl (hb hby at_49) ?_
    show St p e below T4 m 50 #[iv i0, iv (i0 &&& (3 : Int32)), rv wSegregation_GENERAL, .unset] [(.int (0 : Int32))] _
    refine XS.istoreN X4.here hx rfl (hb hby at_50) rfl (l' := #[iv i0, iv (i0 &&& (3 : Int32)), rv wSegregation_GENERAL, iv (0 : Int32)]) rfl ?_
    show St p e below T4 m 51 #[iv i0, iv (i0 &&& (3 : Int32)), rv wSegregation_GENERAL, iv (0 : Int32)] [] _
    refine XS.aloadN X4.here hx rfl (hb hby at_51) rfl rfl ?_
    show St p e below T4 m 52 #[iv i0, iv (i0 &&& (3 : Int32)), rv wSegregation_GENERAL, iv (0 : Int32)] [(.ref wSegregation_GENERAL)] _
    refine st5.trans ?_
    show St p e below T5 m 55 #[iv i0, iv (i0 &&& (3 : Int32)), rv wSegregation_GENERAL, iv (0 : Int32)] [(.int (0 : Int32))] _
    refine XS.iloadN X5.here hx rfl (hb hby at_55) rfl ?_
    show St p e below T5 m 56 #[iv i0, iv (i0 &&& (3 : Int32)), rv wSegregation_GENERAL, iv (0 : Int32)] [(.int (0 : Int32)), (.int (0 : Int32))] _
    refine XS.icmpNo X5.here hx rfl (hb hby at_56) rfl (teq (rfl : (0 : Int32) = (0 : Int32))).2 ?_
    show St p e below T5 m 59 #[iv i0, iv (i0 &&& (3 : Int32)), rv wSegregation_GENERAL, iv (0 : Int32)] [] _
    refine XS.iconst X5.here hx rfl (hb hby at_59) ?_
    show St p e below T5 m 60 #[iv i0, iv (i0 &&& (3 : Int32)), rv wSegregation_GENERAL, iv (0 : Int32)] [(.int (1 : Int32))] _
    refine XS.goto X5.here hx rfl (pc0 := 60) (pc' := 64) rfl (hb hby at_60) (by decide) (by decide) ?_
    show St p e below T5 m 64 #[iv i0, iv (i0 &&& (3 : Int32)), rv wSegregation_GENERAL, iv (0 : Int32)] [(.int (1 : Int32))] _
    exact retN X5 hx (t := .boolean) Bd.returns (by simp) (hb hby at_64) hr
  · show law_4Q Z wSegregation_HOUSE wSegregation_INDIVIDUAL wSegregation_OMNIBUS wSegregation_GENERAL i0 h0 n0 _ T5.heap _
    rw [e5]
    exact ⟨rfl, N5⟩
theorem all_roads (l : Launch) (Z : State) (a0 : Array Value) (hw : ∀ d ∈ tables_1, d.before a0 Z = true) (ws : List Jvm.Cond) (wSegregation_HOUSE : Addr) (wSegregation_INDIVIDUAL : Addr) (wSegregation_OMNIBUS : Addr) (wSegregation_GENERAL : Addr) (B : Base Z wSegregation_HOUSE wSegregation_INDIVIDUAL wSegregation_OMNIBUS wSegregation_GENERAL) (i0 : Int32) (h0 : Heap) (n0 : Nat) (O0 : Old Z n0 h0) :
    MetFree l x (head1 (Jvm.Cond.code x code maxLocals ret :: ws) room_1) (fun a U => a = #[(.int i0)] ∧ Z.Warmed39 U.vm ∧ U.heap = h0) (fun _ _ _ _ _ => True) (fun _ U o U' => ∃ v L, o = .returned v ∧ (v = some (.int (1 : Int32)) ∧ Fr n0 L) ∧ FrameEnd U o U' L room_1.cells room_1.slots) := by
  by_cases c0 : (i0 &&& (3 : Int32)) = (0 : Int32)
  · exact law_1 l Z a0 hw ws wSegregation_HOUSE wSegregation_INDIVIDUAL wSegregation_OMNIBUS wSegregation_GENERAL B i0 h0 n0 O0 c0
  by_cases c1 : (i0 &&& (3 : Int32)) = (1 : Int32)
  · exact law_2 l Z a0 hw ws wSegregation_HOUSE wSegregation_INDIVIDUAL wSegregation_OMNIBUS wSegregation_GENERAL B i0 h0 n0 O0 c0 c1
  by_cases c2 : (i0 &&& (3 : Int32)) = (2 : Int32)
  · exact law_3 l Z a0 hw ws wSegregation_HOUSE wSegregation_INDIVIDUAL wSegregation_OMNIBUS wSegregation_GENERAL B i0 h0 n0 O0 c0 c1 c2
  exact law_4 l Z a0 hw ws wSegregation_HOUSE wSegregation_INDIVIDUAL wSegregation_OMNIBUS wSegregation_GENERAL B i0 h0 n0 O0 c0 c1 c2
set_option maxRecDepth 65536 in
set_option maxHeartbeats 40000000 in
theorem comes_1 {Post : Tables → Env → Array Value → State → Outcome → State → Prop} (hpost : ∀ tb e args s v u, (limb_1_1.after args s (.returned v) u = true ∧ limb_1_2.after args s (.returned v) u = true ∧ True) → FrameEnd s (.returned v) u (Jvm.fieldLocs frame_1_writes args s ++ Jvm.arrayLocs frame_1_arrays args s ++ Jvm.staticLocs frame_1_statics s) 0 0 → Post tb e args s (.returned v) u) :
    ArmFor flags0 classFile x code maxLocals ret World_1 tables_1 room_1 Calls_1 rest_1 Pre_1 Post := by
  intro l hfl _ _ p e ha hc hk s m args below hf hA hF happ hP
  obtain ⟨hcalls, hrest, hpre⟩ := hP
  obtain ⟨-, -, -, hnamed, -, -, -, hat⟩ := (Spec.applies_iff hf).mp happ
  obtain ⟨hg, hn⟩ := and_e (Cond.before_iff.mp (show (Jvm.Cond.and given_1 narrow_1).before args s = true from hpre))
  obtain ⟨gg1, gg2⟩ := and_e hg
  obtain ⟨w0, rfl⟩ : ∃ w0 : Value, args = #[w0] := by
    have hs : args.size = 1 := by simpa [Cond.value, given_1] using gg1
    obtain ⟨L⟩ := args
    match L, hs with
    | [w0], _ => exact ⟨w0, rfl⟩
  have hw := fun d (hd : d ∈ tables_1) => atoms_spec (ws := Jvm.Cond.code x code maxLocals ret :: tables_1) hat d (List.mem_cons_of_mem _ hd)
  have hfit : Fit s := fun {y c} hc i hi => by
    obtain ⟨ha, rfl⟩ := Array.getElem?_eq_some_iff.mp hc
    have q := List.all_eq_true.mp ((Array.all_eq_true_iff_forall_mem.mp hF) _ (Array.getElem_mem ha)) i (List.mem_range.mpr hi)
    simpa [Array.getElem?_eq_getElem hi] using q
  obtain ⟨i0, ei0⟩ := is_v gg2
  obtain rfl : w0 = (.int i0) := Option.some.inj ei0
  obtain ⟨nr1, hn⟩ := and_e hn
  obtain ⟨nr2, hn⟩ := and_e hn
  obtain ⟨nr3, hn⟩ := and_e hn
  obtain ⟨nr4, hn⟩ := and_e hn
  obtain ⟨nr5, hn⟩ := and_e hn
  obtain ⟨nr6, hn⟩ := and_e hn
  obtain ⟨nr7, hn⟩ := and_e hn
  have nr8 := hn
  obtain ⟨wSegregation_HOUSE, ev_wSegregation_HOUSE⟩ := exa_v nr1
  obtain ⟨wSegregation_INDIVIDUAL, ev_wSegregation_INDIVIDUAL⟩ := exa_v nr2
  obtain ⟨wSegregation_OMNIBUS, ev_wSegregation_OMNIBUS⟩ := exa_v nr5
  obtain ⟨wSegregation_GENERAL, ev_wSegregation_GENERAL⟩ := exa_v nr7
  have fi_wSegregation_HOUSE_ordinal := own_ord ev_wSegregation_HOUSE nr3
  have fi_wSegregation_INDIVIDUAL_ordinal := own_ord ev_wSegregation_INDIVIDUAL nr4
  have fi_wSegregation_OMNIBUS_ordinal := own_ord ev_wSegregation_OMNIBUS nr6
  have fi_wSegregation_GENERAL_ordinal := own_ord ev_wSegregation_GENERAL nr8
  have hB : Base s wSegregation_HOUSE wSegregation_INDIVIDUAL wSegregation_OMNIBUS wSegregation_GENERAL := ⟨Sta.start ev_wSegregation_HOUSE (Or.inr ⟨(ow hw 1 rfl), (ow hw 2 rfl)⟩), Exa.start ev_wSegregation_HOUSE nr1, Sta.start ev_wSegregation_INDIVIDUAL (Or.inr ⟨(ow hw 1 rfl), (ow hw 9 rfl)⟩), Exa.start ev_wSegregation_INDIVIDUAL nr2, Sta.start ev_wSegregation_OMNIBUS (Or.inr ⟨(ow hw 1 rfl), (ow hw 11 rfl)⟩), Exa.start ev_wSegregation_OMNIBUS nr5, Sta.start ev_wSegregation_GENERAL (Or.inr ⟨(ow hw 1 rfl), (ow hw 13 rfl)⟩), Exa.start ev_wSegregation_GENERAL nr7, fi_wSegregation_HOUSE_ordinal, fi_wSegregation_INDIVIDUAL_ordinal, fi_wSegregation_OMNIBUS_ordinal, fi_wSegregation_GENERAL_ordinal, fi_wSegregation_HOUSE_ordinal.ne fi_wSegregation_INDIVIDUAL_ordinal (by decide), fi_wSegregation_HOUSE_ordinal.ne fi_wSegregation_OMNIBUS_ordinal (by decide), fi_wSegregation_HOUSE_ordinal.ne fi_wSegregation_GENERAL_ordinal (by decide), fi_wSegregation_INDIVIDUAL_ordinal.ne fi_wSegregation_OMNIBUS_ordinal (by decide), fi_wSegregation_INDIVIDUAL_ordinal.ne fi_wSegregation_GENERAL_ordinal (by decide), fi_wSegregation_OMNIBUS_ordinal.ne fi_wSegregation_GENERAL_ordinal (by decide)⟩
  obtain ⟨n, o, h1, h2, h3, _, L, rfl, ⟨rfl, N⟩, hq⟩ := all_roads l s _ hw tables_1 wSegregation_HOUSE wSegregation_INDIVIDUAL wSegregation_OMNIBUS wSegregation_GENERAL hB i0 s.heap s.heap.size (Old.start s) p e ha hc hk s m _ below hf ((Spec.applies_iff_loose hf).mp happ).1 ⟨rfl, State.Warmed39.refl s, rfl⟩ trivial
  refine ⟨n, _, h1, h2, h3, hpost _ _ _ _ _ _ ⟨Cond.after_iff.mpr rfl, Cond.after_iff.mpr (eq_i res_at (Term.int_eval (1)) rfl), trivial⟩ ⟨hq.1, hq.2.1, (hq.2.2.sift fun y hy => Or.inr (N y hy)).mono (by decide) (by decide)⟩⟩
theorem main_1_1 : Claimed_1_1 := comes_1 fun _ _ _ _ _ _ h hF => ⟨h.1, hF⟩
theorem main_1_2 : Claimed_1_2 := comes_1 fun _ _ _ _ _ _ h hF => ⟨h.2.1, hF⟩
end Jvm.Pilot.@@N@@
namespace Jvm.Pilot.@@N@@
open Jvm Jvm.ClassFile Sem Op Lib Jvm.Free Jvm.Stand Jvm.Pilot.@@N@@.Jvm.D
/-! MADE BY PROGRAM (witnessworld.py) out of the Statement's table words and the real class files: 13 classes; the members and pool entries that the words name. The judged class is class 1, her method 1. -/
namespace start1
open Jvm.ClassFile
def u (s : String) : CpInfo := .utf8 (stringToUtf16 s)
/-- a pool by its gaps: so many unusable entries, then the entry; so many at the end -/
def gap : Nat → List CpInfo → List CpInfo
  | 0, r => r
  | n + 1, r => .unusable :: gap n r
def poolList (es : List (Nat × CpInfo)) (last : Nat) : List CpInfo := es.foldr (fun e r => gap e.1 (e.2 :: r)) (gap last [])
def pool (es : List (Nat × CpInfo)) (last : Nat) : Array CpInfo := ⟨poolList es last⟩
def fileOf (pool : Array CpInfo) (this : Nat) (attrs : Array Attribute := #[]) (ms : Array MethodInfo := #[]) (fl : Nat := 33) (sup : Nat := 0) (ifs : Array Nat := #[]) (fds : Array FieldInfo := #[]) : ClassFile where
  minorVersion := 0
  majorVersion := 65
  constantPool := pool
  accessFlags := fl
  thisClass := this
  superClass := sup
  interfaces := ifs
  fields := fds
  methods := ms
  attributes := attrs
def plain (name : String) (sup : Option ClassId) : Class where
  name := name
  kind := .ordinary
  loader := none
  accessFlags := 33
  super := sup
  interfaces := #[]
  cf := none
  fields := #[]
  methods := #[]
  instanceTypes := #[]
  staticTypes := #[]
  resolved := #[]
  callSites := []
  init := .initialized
  statics := none
  mirror := none

def pool0 : Array CpInfo := pool [(5, u "<init>"), (0, u "()V"), (1, .class_ 10), (1, u "java/lang/Object")] 113

def k0m0 : Method := { name := "<init>", desc := "()V", sig := { parameters := [], returnType := none }, accessFlags := 1, code := none }
/-- java/lang/Object -/
def k0 : Class := { plain "java/lang/Object" none with
  accessFlags := 33
  interfaces := #[]
  cf := some (fileOf pool0 8 #[] #[{ accessFlags := 1, nameIndex := 5, descriptorIndex := 6, attributes := #[] }] 33 0 #[] #[])
  fields := #[]
  methods := #[k0m0]
  instanceTypes := #[]
  staticTypes := #[]
  resolved := Array.replicate 124 none
  statics := none }

def pool1 : Array CpInfo := pool [(2, .class_ 4), (1, u "java/lang/Object"), (0, u "<init>"), (0, u "()V"), (0, .fieldref 8 9), (0, .class_ 10), (0, .nameAndType 11 12), (0, u "com/example/novation/novation/Segregation"), (0, u "HOUSE"), (0, u "Lcom/example/novation/novation/Segregation;"), (0, .fieldref 8 14), (0, .nameAndType 15 12), (0, u "INDIVIDUAL"), (0, .fieldref 8 17), (0, .nameAndType 18 12), (0, u "OMNIBUS"), (0, .fieldref 8 20), (0, .nameAndType 21 12), (0, u "GENERAL"), (0, .methodref 8 23), (0, .nameAndType 24 25), (0, u "segregatedClient"), (0, u "()Z"), (0, .class_ 27), (0, u "com/example/novation/novation/SegregationSegregatedClientPinLaw"), (2, u "law"), (0, u "(I)Z")] 3

def k1m0 : Method := { name := "<init>", desc := "()V", sig := { parameters := [], returnType := none }, accessFlags := 1, code := none }
def k1c1 : Code := { maxStack := 2, maxLocals := 4, code := code, exceptionTable := #[], attributes := #[] }
def k1m1 : Method := { name := "law", desc := "(I)Z", sig := { parameters := [.int], returnType := some .boolean }, accessFlags := 9, code := some k1c1 }
/-- com/example/novation/novation/SegregationSegregatedClientPinLaw -/
def k1 : Class := { plain "com/example/novation/novation/SegregationSegregatedClientPinLaw" (some 0) with
  accessFlags := 49
  interfaces := #[]
  cf := some (fileOf pool1 26 #[] #[{ accessFlags := 1, nameIndex := 5, descriptorIndex := 6, attributes := #[] }, { accessFlags := 9, nameIndex := 30, descriptorIndex := 31, attributes := #[] }] 49 2 #[] #[])
  fields := #[]
  methods := #[k1m0, k1m1]
  instanceTypes := #[]
  staticTypes := #[]
  resolved := Array.replicate 35 none
  statics := none }

def pool2 : Array CpInfo := pool [(1, .class_ 2), (0, u "java/lang/constant/Constable"), (0, .class_ 4), (0, u "java/lang/Object")] 6

/-- java/lang/constant/Constable -/
def k2 : Class := { plain "java/lang/constant/Constable" (some 0) with
  accessFlags := 1537
  interfaces := #[]
  cf := some (fileOf pool2 1 #[] #[] 1537 3 #[] #[])
  fields := #[]
  methods := #[]
  instanceTypes := #[]
  staticTypes := #[]
  resolved := Array.replicate 11 none
  statics := none }

def pool3 : Array CpInfo := pool [(1, .class_ 2), (0, u "java/lang/Comparable"), (0, .class_ 4), (0, u "java/lang/Object")] 7

/-- java/lang/Comparable -/
def k3 : Class := { plain "java/lang/Comparable" (some 0) with
  accessFlags := 1537
  interfaces := #[]
  cf := some (fileOf pool3 1 #[] #[] 1537 3 #[] #[])
  fields := #[]
  methods := #[]
  instanceTypes := #[]
  staticTypes := #[]
  resolved := Array.replicate 12 none
  statics := none }

def pool4 : Array CpInfo := pool [(1, .class_ 2), (0, u "java/io/Serializable"), (0, .class_ 4), (0, u "java/lang/Object")] 2

/-- java/io/Serializable -/
def k4 : Class := { plain "java/io/Serializable" (some 0) with
  accessFlags := 1537
  interfaces := #[]
  cf := some (fileOf pool4 1 #[] #[] 1537 3 #[] #[])
  fields := #[]
  methods := #[]
  instanceTypes := #[]
  staticTypes := #[]
  resolved := Array.replicate 7 none
  statics := none }

def pool5 : Array CpInfo := pool [(2, .class_ 4), (1, u "java/lang/Enum"), (0, u "name"), (0, u "Ljava/lang/String;"), (2, u "ordinal"), (0, u "I"), (1, .class_ 14), (1, u "java/lang/Object"), (4, u "hash"), (86, .class_ 108), (1, u "java/lang/Enum$EnumDesc"), (2, .class_ 112), (0, u "java/lang/constant/Constable"), (0, .class_ 114), (0, u "java/lang/Comparable"), (0, .class_ 116), (0, u "java/io/Serializable")] 87

/-- java/lang/Enum -/
def k5 : Class := { plain "java/lang/Enum" (some 0) with
  accessFlags := 1057
  interfaces := #[2, 3, 4]
  cf := some (fileOf pool5 2 #[.nestMembers #[106]] #[] 1057 12 #[111, 113, 115] #[{ accessFlags := 18, nameIndex := 5, descriptorIndex := 6, attributes := #[] }, { accessFlags := 18, nameIndex := 9, descriptorIndex := 10, attributes := #[] }, { accessFlags := 2, nameIndex := 19, descriptorIndex := 10, attributes := #[] }])
  fields := #[{ name := "name", type := (.object "java/lang/String"), accessFlags := 18, slot := 0, constantValue := 0 }, { name := "ordinal", type := .int, accessFlags := 18, slot := 1, constantValue := 0 }, { name := "hash", type := .int, accessFlags := 2, slot := 2, constantValue := 0 }]
  methods := #[]
  instanceTypes := #[(.object "java/lang/String"), .int, .int]
  staticTypes := #[]
  resolved := Array.replicate 204 none
  statics := none }

def pool6 : Array CpInfo := pool [(1, .class_ 2), (0, u "com/example/novation/novation/BookNamed"), (0, .class_ 4), (0, u "java/lang/Object")] 4

/-- com/example/novation/novation/BookNamed -/
def k6 : Class := { plain "com/example/novation/novation/BookNamed" (some 0) with
  accessFlags := 1537
  interfaces := #[]
  cf := some (fileOf pool6 1 #[] #[] 1537 3 #[] #[])
  fields := #[]
  methods := #[]
  instanceTypes := #[]
  staticTypes := #[]
  resolved := Array.replicate 9 none
  statics := none }

def pool7 : Array CpInfo := pool [(1, .class_ 2), (0, u "com/example/novation/novation/Segregation"), (2, u "HOUSE"), (0, u "Lcom/example/novation/novation/Segregation;"), (0, .fieldref 1 8), (0, .nameAndType 9 6), (0, u "INDIVIDUAL"), (0, .fieldref 1 11), (0, .nameAndType 12 6), (0, u "OMNIBUS"), (2, u "GENERAL"), (2, u "$VALUES"), (0, u "[Lcom/example/novation/novation/Segregation;"), (6, .class_ 28), (1, u "java/lang/Enum"), (8, u "bookName"), (0, u "Ljava/lang/String;"), (19, .class_ 59), (0, u "com/example/novation/novation/BookNamed"), (8, u "segregatedClient"), (0, u "()Z")] 6

def k7c0 : Code := { maxStack := 2, maxLocals := 1, code := prog_54_method_5_code, exceptionTable := #[], attributes := #[] }
def k7m0 : Method := { name := "segregatedClient", desc := "()Z", sig := { parameters := [], returnType := some .boolean }, accessFlags := 1, code := some k7c0 }
/-- com/example/novation/novation/Segregation -/
def k7 : Class := { plain "com/example/novation/novation/Segregation" (some 5) with
  accessFlags := 16433
  interfaces := #[6]
  cf := some (fileOf pool7 1 #[] #[{ accessFlags := 1, nameIndex := 68, descriptorIndex := 69, attributes := #[] }] 16433 26 #[58] #[{ accessFlags := 16409, nameIndex := 5, descriptorIndex := 6, attributes := #[] }, { accessFlags := 16409, nameIndex := 9, descriptorIndex := 6, attributes := #[] }, { accessFlags := 16409, nameIndex := 12, descriptorIndex := 6, attributes := #[] }, { accessFlags := 16409, nameIndex := 15, descriptorIndex := 6, attributes := #[] }, { accessFlags := 18, nameIndex := 37, descriptorIndex := 38, attributes := #[] }, { accessFlags := 4122, nameIndex := 18, descriptorIndex := 19, attributes := #[] }])
  fields := #[{ name := "HOUSE", type := (.object "com/example/novation/novation/Segregation"), accessFlags := 16409, slot := 0, constantValue := 0 }, { name := "INDIVIDUAL", type := (.object "com/example/novation/novation/Segregation"), accessFlags := 16409, slot := 1, constantValue := 0 }, { name := "OMNIBUS", type := (.object "com/example/novation/novation/Segregation"), accessFlags := 16409, slot := 2, constantValue := 0 }, { name := "GENERAL", type := (.object "com/example/novation/novation/Segregation"), accessFlags := 16409, slot := 3, constantValue := 0 }, { name := "bookName", type := (.object "java/lang/String"), accessFlags := 18, slot := 3, constantValue := 0 }, { name := "$VALUES", type := (.array (.object "com/example/novation/novation/Segregation")), accessFlags := 4122, slot := 4, constantValue := 0 }]
  methods := #[k7m0]
  instanceTypes := #[(.object "java/lang/String"), .int, .int, (.object "java/lang/String")]
  staticTypes := #[(.object "com/example/novation/novation/Segregation"), (.object "com/example/novation/novation/Segregation"), (.object "com/example/novation/novation/Segregation"), (.object "com/example/novation/novation/Segregation"), (.array (.object "com/example/novation/novation/Segregation"))]
  resolved := Array.replicate 76 none
  statics := some 0 }

def pool8 : Array CpInfo := pool [(1, u "java/lang/Cloneable"), (0, .class_ 1), (0, u "java/lang/Object"), (0, .class_ 3)] 3

/-- java/lang/Cloneable -/
def k8 : Class := { plain "java/lang/Cloneable" (some 0) with
  accessFlags := 1537
  interfaces := #[]
  cf := some (fileOf pool8 2 #[] #[] 1537 4 #[] #[])
  fields := #[]
  methods := #[]
  instanceTypes := #[]
  staticTypes := #[]
  resolved := Array.replicate 8 none
  statics := none }

/-- the primitive byte -/
def k9 : Class := { plain "byte" none with kind := .primitive 'B', accessFlags := 0x411 }
/-- [B -/
def k10 : Class := { plain "[B" (some 0) with kind := .array 9 .byte, interfaces := #[8, 4], accessFlags := 1041 }

/-- the primitive int -/
def k11 : Class := { plain "int" none with kind := .primitive 'I', accessFlags := 0x411 }
/-- [I -/
def k12 : Class := { plain "[I" (some 0) with kind := .array 11 .int, interfaces := #[8, 4], accessFlags := 1041 }

def heap : Heap := #[{ cls := 7, slots := #[.ref 1, .ref 2, .ref 3, .ref 4, .null], vm := .statics 7 },
  { cls := 7, slots := #[.null, .int 0, .int 0, .null], vm := .none },
  { cls := 7, slots := #[.null, .int 1, .int 0, .null], vm := .none },
  { cls := 7, slots := #[.null, .int 2, .int 0, .null], vm := .none },
  { cls := 7, slots := #[.null, .int 3, .int 0, .null], vm := .none }]
def classes : Array Class := #[k0, k1, k2, k3, k4, k5, k6, k7, k8, k9, k10, k11, k12]
def interned : List (Array UInt16 × Addr) := []
def slotsUsed : Nat := 21
def theMethod : MethodId := ⟨1, 1⟩
def args0 : Array Value := #[.int 5]
def aboutOver (below : List Frame) : State where
  vm := { classes := classes, interned := interned.toArray }
  heap := heap
  slotsUsed := slotsUsed
  threads := #[{ frames := .invoking theMethod args0 :: below }]
def below0 : List Frame := [.native { method := ⟨0, 0⟩, args := #[] }]
def about1 : State := aboutOver below0
def p0 : Program := .bare "" "" ""
def e0 : Env := launch0.env 0 0 0
theorem w_frames : about1.frames = Frame.invoking theMethod args0 :: below0 := rfl
set_option maxRecDepth 65536 in
theorem w_args : argsFit about1.vm theMethod args0 = true := by decide +kernel
set_option maxRecDepth 65536 in
theorem w_heap : heapFits about1 = true := by decide +kernel
set_option maxRecDepth 65536 in
theorem w_runnable : about1.curStatus? = some .runnable := by decide +kernel
set_option maxRecDepth 65536 in
theorem w_alone : about1.alone = true := by decide +kernel
set_option maxRecDepth 65536 in
theorem w_named : about1.methodNamed? x = some theMethod := by decide +kernel
set_option maxRecDepth 65536 in
theorem w_hears : about1.hears theMethod below0 = true := by decide +kernel
set_option maxRecDepth 65536 in
theorem w_ripe : about1.ripe theMethod args0 below0 = true := by decide +kernel
theorem w_running : about1.status = .running := rfl
set_option maxRecDepth 65536 in
theorem w_room : about1.hasRoom e0.platform room_1 = true :=
  launch0.hasRoom_least _ room_1 (by decide +kernel) (by decide +kernel) (by decide +kernel) (by decide +kernel) (by decide +kernel) (by decide +kernel)
theorem allAtoms_all (ts : List Jvm.Cond) (a : Array Jvm.Value) (st : Jvm.State) : (allAtoms ts).before a st = ts.all (fun c => c.before a st) := by
  induction ts with
  | nil => rfl
  | cons c t ih =>
    show (Jvm.Cond.and c (allAtoms t)).before a st = _
    rw [Jvm.Cond.before_and, ih, List.all_cons]
def words1 : List Jvm.Cond := Jvm.Cond.code x code maxLocals ret :: tables_1
/-- a 'code' word, met by the world's own term for the bytes: nothing is compared byte by byte -/
theorem code_word {y : MethodName} {bytes : ByteArray} {mx : Nat} {rt : Option FieldType} {a : Array Value} {s : State} {m : MethodId} {meth : Method} {c : Code} (h1 : s.methodNamed? y = some m) (h2 : s.vm.method? m = some meth) (h3 : meth.code = some c) (h4 : c.code = bytes)
    (h5 : (c.maxLocals == mx && c.exceptionTable.isEmpty && decide (c.maxStack ≤ mostOperands) && decide (meth.sig.returnType = rt) && !meth.locks && decide (parseMethodDescriptor y.desc = some meth.sig)) = true) : (Jvm.Cond.code y bytes mx rt).before a s = true := by
  simp only [Bool.and_eq_true, beq_iff_eq, Bool.not_eq_true', decide_eq_true_eq] at h5
  obtain ⟨⟨⟨⟨⟨g1, g2⟩, g3⟩, g4⟩, g5⟩, g6⟩ := h5
  simp [Cond.before, Cond.holds, Cond.value, h1, h2, h3, h4, g1, g2, g3, g4, g5, g6]
def isCode : Jvm.Cond → Bool
  | .code _ _ _ _ => true
  | _ => false
theorem all_split {L : List Jvm.Cond} {P : Jvm.Cond → Bool} (h1 : L.all (fun c => isCode c || P c) = true) (h2 : ∀ c ∈ L.filter isCode, P c = true) : L.all P = true := by
  refine List.all_eq_true.mpr fun c hc => ?_
  have h := List.all_eq_true.mp h1 c hc
  rcases Bool.eq_false_or_eq_true (isCode c) with hi | hi
  · exact h2 c (List.mem_filter.mpr ⟨hc, hi⟩)
  · simpa [hi] using h
set_option maxRecDepth 65536 in
theorem w_c0 : (Jvm.Cond.code x code maxLocals ret).before args0 about1 = true := code_word (m := ⟨1, 1⟩) (meth := k1m1) (c := k1c1) (by decide +kernel) rfl rfl rfl (by decide +kernel)
set_option maxRecDepth 65536 in
theorem w_c1 : (Jvm.Cond.code ({ cls := "com/example/novation/novation/Segregation", name := "segregatedClient", desc := "()Z" } : Jvm.MethodName) prog_54_method_5_code (1 : Nat) (Option.some Jvm.ClassFile.FieldType.boolean)).before args0 about1 = true := code_word (m := ⟨7, 0⟩) (meth := k7m0) (c := k7c0) (by decide +kernel) rfl rfl rfl (by decide +kernel)
def codes1 : List Jvm.Cond := [Jvm.Cond.code x code maxLocals ret, Jvm.Cond.code ({ cls := "com/example/novation/novation/Segregation", name := "segregatedClient", desc := "()Z" } : Jvm.MethodName) prog_54_method_5_code (1 : Nat) (Option.some Jvm.ClassFile.FieldType.boolean)]
set_option maxRecDepth 65536 in
theorem codes_eq : words1.filter isCode = codes1 := rfl
theorem w_codes : ∀ c ∈ words1.filter isCode, c.before args0 about1 = true := by
  rw [codes_eq]
  intro c hc
  simp only [codes1, List.mem_cons, List.not_mem_nil, or_false] at hc
  rcases hc with rfl | rfl
  · exact w_c0
  · exact w_c1
set_option maxRecDepth 65536 in
theorem w_t1 : words1.all (fun c => isCode c || c.before args0 about1) = true := by decide +kernel
theorem w_tables : (allAtoms (Jvm.Cond.code x code maxLocals ret :: tables_1)).before args0 about1 = true := by
  rw [allAtoms_all]
  show words1.all (fun c => c.before args0 about1) = true
  refine all_split ?_ w_codes
  rw [w_t1]
set_option maxRecDepth 65536 in
theorem w_case : (Jvm.Cond.and given_1 narrow_1).before args0 about1 = true := by decide +kernel
theorem w_applies : (headSpec (Jvm.Cond.code x code maxLocals ret :: tables_1) room_1).applies x e0.platform about1 = true :=
  (Spec.applies_iff w_frames).mpr ⟨w_running, w_runnable, w_alone, w_named, w_hears, w_ripe, w_room, w_tables⟩
theorem atStart : AtStart classFile x code maxLocals ret World_1 tables_1 room_1 Calls_1 rest_1 Pre_1 launch0 p0 e0 about1 theMethod args0 below0 :=
  ⟨lists_1, trivial, launch0.admits_env _ _ _, launch0.least_env, fairChoices_fair.cas, fairChoices_fair.clock, w_frames, w_args, w_heap, w_applies, trivial, trivial, w_case⟩
end start1
theorem witness_1 : WitnessClaimed_1 := ⟨start1.p0, start1.e0, start1.about1, start1.theMethod, start1.args0, start1.below0, start1.atStart⟩
end Jvm.Pilot.@@N@@
